import PyProof.Rows.All
import Wide.All
import OpenK.AllK
import Wide.FinOn
import PySem.Challenge.RW_we0014_01
open PySem PySem.W PySem.Calls PyProof.Rows PySem.Spec
set_option Elab.async false
set_option maxRecDepth 100000
set_option maxHeartbeats 8000000
-- part Cl
namespace Mine

/-- the built-ins that hold a bytearray while they run: what bytearray.__init__ looks for on the stack -/
def dirtyIds : List String := Builtin.Bytes.decodersThatHold ++ ["bytearray.__contains__", "bytearray.__mod__", "bytearray.__rmod__", "_struct.pack_into.held", "bytearray.find.held"]
def CleanC (c : Code) : Prop := ∀ id args, c = .builtin id args → dirtyIds.contains id = false
theorem CleanC.call {f : Value} {a : Args} : CleanC (.call f a) := fun _ _ e => by cases e
theorem CleanC.func {b : List Stmt} {e : Env} : CleanC (.func b e) := fun _ _ e => by cases e
theorem CleanC.block {b : List Stmt} {e : Env} : CleanC (.block b e) := fun _ _ e => by cases e
theorem CleanC.forLoop {t : Expr} {it : Value} {b o : List Stmt} {e : Env} : CleanC (.forLoop t it b o e) := fun _ _ e => by cases e
theorem CleanC.builtin {id : String} {a : Args} (h : dirtyIds.contains id = false) : CleanC (.builtin id a) := fun _ _ e => by cases e; exact h
structure CleanG (Γ : PySem.Ctx) : Prop where
  code : CleanC Γ.code
  below : ∀ x ∈ Γ.below, CleanC x.1
def CleanB (Γ : PySem.Ctx) : Prop := ∀ x ∈ Γ.below, CleanC x.1

/-- wpAny over clean stacks, no raise let through -/
def wpC {α : Type} (M : Model) (A : Around) (t : Sem α) (Q : α → Shared → Prop) (s : Shared) : Prop :=
  ∀ Γ p, Γ.In A → CleanG Γ → Sem.wp M Γ t (fun a _ s' => Q a s') (fun _ _ _ => False) p s
def codeC (M : Model) (A : Around) (c : Code) (R : Flow → Shared → Prop) (s : Shared) : Prop :=
  ∀ Γ p, Γ.code = c → Γ.Below A → CleanB Γ → wpCode M Γ (fun r s' => match r with | .ok f => R f s' | .error _ => False) p s

theorem CleanG.enter {Γ : PySem.Ctx} (h : CleanG Γ) (c : Code) (hd : Option Value) (p : Pos) : CleanB (Γ.enter c hd p) := fun x hx => by
  rcases List.mem_cons.mp hx with rfl | hx
  · exact h.code
  · exact h.below x hx

section
variable {α β : Type} {M : Model} {A : Around} {s : Shared}
theorem wpC_any {t : Sem α} {Q : α → Shared → Prop} (h : wpAny M A t Q (fun _ _ => False) s) : wpC M A t Q s := fun Γ p hΓ _ => h Γ p hΓ
theorem wpC_mono {t : Sem α} {Q Q' : α → Shared → Prop} (h : wpC M A t Q s) (hQ : ∀ a s, Q a s → Q' a s) : wpC M A t Q' s :=
  fun Γ p hΓ hc => Sem.wp_mono M Γ t (fun a _ s => hQ a s) (fun _ _ _ x => x) p s (h Γ p hΓ hc)
theorem wpC_pure {a : α} {Q : α → Shared → Prop} (h : Q a s) : wpC M A (pure a) Q s := fun _ _ _ _ => h
theorem wpC_bind {m : Sem α} {f : α → Sem β} {Q : β → Shared → Prop} (h : wpC M A m (fun a s' => wpC M A (f a) Q s') s) : wpC M A (m >>= f) Q s := fun Γ p hΓ hc => by
  rw [Sem.wp_bind']
  exact Sem.wp_mono M Γ m (fun a p' s' h' => h' Γ p' hΓ hc) (fun _ _ _ h' => h') p s (h Γ p hΓ hc)
theorem wpC_standAt {pos : Pos} {Q : Unit → Shared → Prop} (h : Q () s) : wpC M A (standAt pos) Q s := fun _ _ _ _ => h
theorem wpC_holding {vs : List Value} {m : Sem α} {Q : α → Shared → Prop} (h : wpC M A m Q s) : wpC M A (holding vs m) Q s := fun Γ p hΓ hc => by rw [Sem.wp_holding]; exact h Γ p hΓ hc
theorem wpC_keep {vs : List Value} {m : Sem α} {Q : α → Shared → Prop} (h : wpC M A m Q s) : wpC M A (m.keep vs) Q s := fun Γ p hΓ hc => by rw [Sem.wp_keep]; exact h Γ p hΓ hc
theorem wpC_onRaise {m : Sem α} {k : Value → Sem Unit} {Q : α → Shared → Prop} (h : wpC M A m Q s) : wpC M A (m.onRaise k) Q s := fun Γ p hΓ hc => by
  rw [Sem.wp_onRaise]
  exact Sem.wp_mono M Γ m (fun _ _ _ h' => h') (fun _ _ _ h' => h'.elim) p s (h Γ p hΓ hc)
theorem wpC_stack {Q : List (Code × Pos) → Shared → Prop} (h : ∀ st : List (Code × Pos), (∀ x ∈ st, CleanC x.1) → Q st s) : wpC M A stack Q s := fun Γ p _ hc => by
  show Q ((Γ.code, p) :: Γ.below) s
  exact h _ fun x hx => by
    rcases List.mem_cons.mp hx with rfl | hx
    · exact hc.code
    · exact hc.below x hx
theorem wpC_run {c : Code} {h : Option Value} {Q : Flow → Shared → Prop} (hc : codeC M (A.mark h) c Q s) (hnb : h ≠ some byPass := by intro x; cases x) : wpC M A (run c h) Q s := fun Γ p hΓ hg => by
  rw [Sem.wp_run]
  refine wpCode_mono (fun r s' hr => ?_) (hc _ p rfl (hΓ.enter c h p hnb) (hg.enter c h p))
  cases r with
  | ok f => exact hr
  | error e => exact hr.elim
theorem wpC_call {f : Value} {pos : List Value} {kw : List (Str × Value)} {Q : Value → Shared → Prop} (hc : codeC M A (.call f ⟨pos, kw⟩) (fun r s' => match r with | .ret v => Q v s' | _ => False) s) :
    wpC M A (call f pos kw) Q s := fun Γ p hΓ hg => by
  show Sem.wp M Γ (runValue _) _ _ p s
  rw [Sem.wp_runValue]
  refine wpCode_mono (fun r s' hr => ?_) (hc _ p rfl (hΓ.enter _ none p (by intro x; cases x)) (hg.enter _ none p))
  cases r with
  | ok f => cases f <;> exact hr
  | error e => exact hr.elim
theorem codeC_of_tree {c : Code} {R : Flow → Shared → Prop} (hcl : CleanC c)
    (h : wpC M (A.under c) (M.den c) (fun fin s' => match fin with | .done f => R f s' | .again c' => c'.quiet = true ∧ codeC M A c' R s') s) : codeC M A c R s := fun Γ p hc hΓ hb => by
  rw [wpCode_iff_wp, hc]
  refine Sem.wp_mono M Γ _ (fun fin p' s' h' => ?_) (fun _ _ _ h' => h'.elim) p s (h Γ p (hc ▸ hΓ.in) ⟨hc ▸ hcl, hb⟩)
  cases fin with
  | done f => exact h'
  | again c' => exact ⟨h'.1, h'.2 (Γ.goto c') p' rfl (hΓ.goto c') hb⟩
theorem codeC_any {c : Code} {R : Flow → Shared → Prop} (h : codeAny M A c (fun r s' => match r with | .ok f => R f s' | .error _ => False) s) : codeC M A c R s := fun Γ p hc hΓ _ => h Γ p hc hΓ
theorem codeC_mono {c : Code} {R R' : Flow → Shared → Prop} (h : codeC M A c R s) (hR : ∀ r s, R r s → R' r s) : codeC M A c R' s := fun Γ p hc hΓ hb =>
  wpCode_mono (fun r s' hr => by cases r with | ok f => exact hR _ _ hr | error e => exact hr.elim) (h Γ p hc hΓ hb)
end

section
variable {M : Model} {A : Around} {s : Shared} {env : Env}
theorem wpC_execs_cons {st : Stmt} {rest : List Stmt} {Q : Flow → Shared → Prop} (h : wpC M A (exec st env) (fun f s' => match f with | .next => wpC M A (execs rest env) Q s' | f => Q f s') s) :
    wpC M A (execs (st :: rest) env) Q s := fun Γ p hΓ hc => by
  rw [execs_cons, Sem.wp_bind']
  refine Sem.wp_mono M Γ _ (fun f p' s' h' => ?_) (fun _ _ _ h' => h') _ _ (h Γ p hΓ hc)
  cases f <;> first | exact h' Γ p' hΓ hc | exact h'
theorem wpC_Assign_Name {x : Str} {pos' pos : Pos} {value : Expr} {Q : Flow → Shared → Prop} (h : wpC M A (eval value env) (fun v s₁ => wpC M A (storeName env x v) (fun _ => Q .next) s₁) s)
    (hs : swapsWith value (some (.Name x pos')) pos.line env = pure false := by rfl) : wpC M A (exec (.Assign [.Name x pos'] value pos) env) Q s := fun Γ p hΓ hc => by
  simp only [exec_Assign_Name env x pos' value pos hs, Sem.wp_bind', Sem.wp_cmd_standAt, Sem.wp_bindName, Sem.wp_pure']
  exact Sem.wp_mono M Γ _ (fun v _ s₁ h₁ => h₁ Γ _ hΓ hc) (fun _ _ _ h' => h') _ _ (h Γ _ hΓ hc)
theorem wpC_If {test : Expr} {body orelse : List Stmt} {pos : Pos} {Q : Flow → Shared → Prop}
    (h : wpC M A (isTrue test env (eval test env)) (fun b s₂ => if b then wpC M A (execs body env) Q s₂ else wpC M A (execs orelse env) Q s₂) s) : wpC M A (exec (.If test body orelse pos) env) Q s := fun Γ p hΓ hc => by
  simp only [exec_If, Sem.wp_bind', Sem.wp_cmd_standAt]
  refine Sem.wp_mono M Γ _ (fun b p₂ s₂ h₂ => ?_) (fun _ _ _ h' => h') _ _ (h Γ _ hΓ hc)
  cases b <;> exact h₂ Γ p₂ hΓ hc
theorem wpC_isTrue_not {x : Expr} {pos : Pos} {whole : Sem Value} {Q : Bool → Shared → Prop} (h : wpC M A (isTrue x env (eval x env)) (fun c s' => Q (!c) s') s) :
    wpC M A (isTrue (.UnaryOp .Not x pos) env whole) Q s := by
  show wpC M A (do return !(← isTrue x env (eval x env))) Q s
  exact wpC_bind (wpC_mono h fun c s' h' => wpC_pure h')
theorem wpC_isTrue_value {e : Expr} {whole : Sem Value} {Q : Bool → Shared → Prop} (h : wpC M A whole (fun v s₁ => wpC M A (truthy v) Q s₁) s)
    (he : isTrue e env whole = (do let v ← whole; standAt e.pos; holding [v] (truthy v)) := by rfl) : wpC M A (isTrue e env whole) Q s := by
  rw [he]
  exact wpC_bind (wpC_mono h fun v s₁ h₁ => wpC_bind (wpC_standAt (wpC_holding h₁)))
theorem wpC_Call_Name {id : Str} {p pos : Pos} {args : List Expr} {Q : Value → Shared → Prop}
    (h : wpAny M A (eval (.Name id p) env) (fun f s₁ => wpC M A (callWith pos f [] (backTo pos (starEach args env)) []) Q s₁) (fun _ _ => False) s) :
    wpC M A (eval (.Call (.Name id p) args [] pos) env) Q s := by
  rw [arm_eval_Call_Name']
  exact wpC_bind (wpC_mono (wpC_any h) fun f s₁ h₁ => h₁)
/-- a call by its parts: the arguments as they lie in the library, the call itself over clean stacks -/
theorem wpC_callWith {P : Heap → Prop} {pos : Pos} {f : Value} {args : List (Bool × Sem Value)} {Q : Value → Shared → Prop} (hplain : (args.any (·.1) || ([] : List (Option Str × Sem Value)).any (·.1.isNone)) = false)
    (hk : ∀ h, P h → ∃ k, (k = Keeper.frame ∨ k = Keeper.machine ∨ k = Keeper.boundFrame) ∧ Looks M h (keeperOf f) k)
    (h : wpAny M A (evalArgs f true args []) (fun a s₁ => P s₁.heap ∧ wpC M A (call f ([] ++ a.pos) a.kw) Q s₁) (fun _ _ => False) s) : wpC M A (callWith pos f [] args []) Q s := by
  unfold callWith
  refine wpC_bind (wpC_holding (wpC_mono (wpC_any h) fun a s₁ h₁ => wpC_bind (wpC_standAt ?_)))
  obtain ⟨k, hk', L⟩ := hk _ h₁.1
  simp only [hplain]
  refine wpC_bind (wpC_any (L.here ?_))
  have tail : ∀ {t : Sem Value}, wpC M A t Q s₁ → wpC M A (t >>= fun r => holding [r] point >>= fun _ => pure r) Q s₁ :=
    fun ht => wpC_bind (wpC_mono ht fun r s₂ hr => wpC_bind (wpC_any (wpAny_holding (wpAny_point (wpC_pure hr)))))
  have marked (mk : Value) : wpC M A (callMarked mk f ([] ++ a.pos) a.kw) Q s₁ := by unfold callMarked; exact wpC_keep h₁.2
  rcases hk' with rfl | rfl | rfl <;> dsimp only <;> first | exact tail h₁.2 | (split <;> first | exact tail h₁.2 | exact tail (marked _))
end

section
variable {prog : Program} {w : World} {A : Around} {s : Shared}
theorem codeC_func {body : List Stmt} {env : Env} {R : Flow → Shared → Prop} (h : wpC (model prog w) (A.deeper env) (execs body env) (fun f s' => R (.ret (match f with | .ret v => v | _ => .none)) s') s) : codeC (model prog w) A (.func body env) R s := by
  refine codeC_of_tree .func ?_
  show wpC _ (A.deeper env) (do point; match ← (execs body env).onRaise (leaving env) with | .ret v => ret v | _ => ret .none) _ s
  refine wpC_bind (wpC_any (wpAny_point ?_))
  refine wpC_bind (wpC_onRaise (wpC_mono h fun f s' h' => ?_))
  cases f <;> exact wpC_pure h'
theorem codeC_call_function {a : Addr} {args : Args} {o : Obj} {fd : FuncData} {body : List Stmt} {R : Flow → Shared → Prop} (hroom : A.depth < recursionLimit)
    (ho : s.heap.get? a = some o) (hd' : o.data = .func fd) (hco : fd.scope.isCoroutine = false) (hgen : fd.scope.isGenerator = false) (hbody : fd.body = .stmts body) (hcd : s.heap.CodeRec fd.code fd.qualname)
    (h : wpAny (model prog w) A.in1 (bindArgs fd args) (fun binds s₁ =>
      wpAny (model prog w) A.in1 (newFunctionEnv fd.scope fd.globals fd.closure binds (fd.qualname ++ ".<locals>.") (some a) fd.code none fd.builtins)
        (fun env s₂ => s₂.heap.NoLimit ∧ codeC (model prog w) A (.func body env) R s₂) (fun _ _ => False) s₁) (fun _ _ => False) s) :
    codeC (model prog w) A (.call (.ref a) args) R s := by
  refine codeC_of_tree .call (wpC_any ?_)
  show wpAny _ A.in1 (callAny (.ref a) args) _ _ s
  simp only [callAny]
  refine wpAny_bind (wpAny_load ho ?_)
  obtain ⟨c, oc, vs, tq, hc, hoc, hdc, hq⟩ := hcd
  simp only [hd', callFunction, hco, hgen, hbody, hc]
  rw [hc] at h
  refine wpAny_bind (m := field (.ref c) 1) (wpAny_field hoc hdc hq (wpAny_bind (wpAny_pure ?_)))
  exact wpAny_bind (wpAny_mono h (fun binds s₁ h₁ => wpAny_bind (wpAny_mono h₁ (fun env s₂ h₂ => wpAny_bind (wpAny_enterFrame h₂.1 hroom
    (wpAny_pure (And.intro rfl h₂.2)))) fun _ _ h' => h')) fun _ _ h' => h')
end
end Mine

-- part HeadC
namespace Mine

theorem thread_endsC {prog : Program} {w : World} {t : Sem PySem.Fin} {s : Shared} {R : Result → Shared → Prop} (hreg : s.asleep)
    (h : wpC (model prog w) callerA t (fun fin s' => ∃ f, fin = .done f ∧ (R (.ok f) s' ∧ leftWithCleanup s'.gens = false)) s) :
    ∃ n r s' s'', PySem.runN (denote table) prog w n s ⟨t, .builtin "claim.caller" {}, default, []⟩ = .halted (outcomeOf r) s' ∧
      schedN (denote table) prog w n (.single s ⟨t, .builtin "claim.caller" {}, default, []⟩) = .halted (outcomeOf r) s' ∧ s'.forget = s''.forget ∧ R r s'' := by
  have hw := h ⟨.builtin "claim.caller" {}, none, none, [], none⟩ default caller_in ⟨.builtin (by decide +kernel), fun _ hx => nomatch hx⟩
  obtain ⟨n, r, s₁, s₂, hs, hn, hfo, hR⟩ := wp_halts_full (M := model prog w) (R := R) (p := default) hreg
    (Sem.wp_mono _ _ t (fun fin p' s' h' => by obtain ⟨f, rfl, hf⟩ := h'; exact hf) (fun _ _ _ h' => h'.elim) default s hw)
  exact ⟨n, r, s₂, s₁, hn, hs, hfo, hR⟩

theorem callFromC {c : ClaimW} {tree : List Value → Sem PySem.Fin} {w : World} {s : Shared} {free : Addr → Prop} {gens : Prop} {kept : Heap → Prop} (hz : s.asleep) (hgens : s.gens = #[])
    (hspec : ∀ args, c.pre args = true → WData.layableAll args = true → ∀ ord : List DictEntry → List DictEntry, (∀ l, (ord l).Perm l) →
      ∃ vs s₁, layAllW c.records (classAt s.heap) w.params ord args s = some (vs, s₁) ∧
        wpC (model c.prog w) callerA (tree vs) (fun fin s' => ∃ f, fin = .done f ∧ (c.Ends s args vs s₁ (.ok f) s' ∧ s'.os = s.os ∧ AllBare s'.gens ∧ kept s'.heap)) s₁) :
    c.CallFrom (fun vs => ⟨tree vs, .builtin "claim.caller" {}, default, []⟩) w free gens kept s := by
  intro args hpre hlay ord hord
  obtain ⟨vs, s₁, hlaid, hcode⟩ := hspec args hpre hlay ord hord
  have hal := layAllW_rest _ _ _ hlaid
  obtain ⟨k, r, s', s'', hrun, hsched, hfo, hcase, hos, hkp⟩ := thread_endsC (prog := c.prog) (w := w) (t := tree vs) (s := s₁)
    (R := fun r s' => c.Ends s args vs s₁ r s' ∧ s'.os = s.os ∧ kept s'.heap) (Shared.asleep_of_life hal.2.2.2 hz)
    (wpC_mono hcode fun fin s' ⟨f, e, h1, h2, h3, h4⟩ => ⟨f, e, ⟨h1, h2, h4⟩, leftWithCleanup_false_of_bare h3⟩)
  obtain ⟨eh, _, _, eo, _⟩ := Shared.forget_eq hfo
  have hcase := hcase.congr eh
  have hkp : kept s'.heap := by rw [eh]; exact hkp
  rw [← eo] at hos
  have hlife : s'.heap.life = s.heap.life := (runN_life _ _ _ hrun).trans hal.2.2.2
  refine ⟨vs, s₁, hlaid, k, _, s', hsched, ?_, (fun _ i x hx => by rw [hgens] at hx; simp at hx), hkp, by rw [hlife], Shared.rest_eq hos⟩
  rcases hcase with ⟨v, rfl, d1, d2, d3, d4, d5⟩ | ⟨e, ob, cls, rfl, d1, d2, d3, d4, d5⟩
  · exact .inl ⟨v, rfl, d1, d2, d3, fun b o y _ => d4 b o y, d5⟩
  · exact .inr ⟨e, ob, cls, rfl, d1, d2, d3, d4, fun b o y _ => d5 b o y⟩

/-- what is asked of the call: as WalkO asks it, but over clean stacks alone -/
abbrev WalkC (q : Program) (loose : List Str) (XP : (Str → Option Value) → Heap → Prop) (YP : World → Heap → Prop) (r : RowW) (d : DefRec) (kwd : List (Str × Expr)) : Prop :=
  ∀ (w : World) (s₀ s₁ : Shared) (mg mb : Str → Option Value), Ground q loose r.records XP w s₀ mg mb s₁.heap → YP w s₁.heap → ∀ (a : Addr) (o : Obj) (pm cd doc dV kV : Value), s₁.heap.get? a = some o →
    o.data = .func { docDef d.name d.params d.body d.scope pm cd doc with defaults := dV, kwdefaults := kV } → s₁.heap.CodeRec cd d.name → Dflts mg s₁.heap d.params kwd dV kV → mg d.name = some (.ref a) → s₁.gens = #[] →
    ∀ (args : List WData) (vals : List Value) (as : List Addr), r.claim.pre args = true → WData.layableAll args = true → ReadsAllW r.records (classAt s₀.heap) s₁.heap vals args as → WellAll w.params s₁.heap vals args → (∀ a ∈ as, (a == sysModules) = false) →
      wpC (model r.prog w) callerA (PySem.call (.ref a) vals) (fun v s' => GoodWG r.claim (classAt s₀.heap) (ExcName.means s₀.heap) args s₁ (.ok (.ret v)) s') s₁
end Mine
namespace Mine.PySem.W
theorem holds_open {r : OpenRow} {q : Program} {loose : List Str} {Xt : Shared → Bool} {XP : (Str → Option Value) → Heap → Prop} {α : Type} {Yf : Shared → α} {Ya : World → α} {YP : World → Heap → Prop} {d : DefRec} {kwd : List (Str × Expr)} {N : Nat}
    (left : LeftO r.prog q loose Xt Yf Ya N) (hY : ∀ w s, Yf s = Ya w → YP w s.heap) (hYk : ∀ w h h', YP w h → (∀ b o, h.get? b = some o → h'.get? b = some o) → YP w h')
    (hX : ∀ s, Xt s = true → XP (s.heap.nsMap mainGlobals) s.heap) (hXk : ∀ mg h h', XP mg h → (∀ b o, h.get? b = some o → h'.get? b = some o) → XP mg h')
    (hdef : defOf q r.name = some (d, kwd)) (hp : r.prog.theDef r.name = some (d.params, d.body, d.scope)) (hk : kwWritten? d.params.kwonlyargs d.params.kw_defaults = some kwd) (hRf : ∀ s, Xt s = true → RecFacts r.records s.heap) (hwr : (!r.writes || r.records.isEmpty) = true)
    (k1 : r.wellSaid = true) (ok : (chainsOk q && opensWell r.prog && (frees r.toRowW && r.within.isEmpty)) = true) (hb : r.prog.bare) (hw : r.toRowW.promised)
    (call : WalkC q loose XP YP r.toRowW d kwd) : r.Holds := by
  refine ⟨k1, hw, ?_⟩
  obtain ⟨ok', k5⟩ := Bool.and_eq_true_iff.mp ok
  obtain ⟨hch, o1⟩ := Bool.and_eq_true_iff.mp ok'
  obtain ⟨k5, k6⟩ := Bool.and_eq_true_iff.mp k5
  obtain ⟨hsame, hu, ha, hap, hm⟩ := frees_parts k5
  refine ⟨⟨hb, o1, by show r.toRowW.makers.map _ = []; rw [hm]; rfl⟩, hw.witness, fun w => ⟨(left.behind hX hch w).1, fun s' hs' => ?_⟩⟩
  obtain ⟨s₀, hf, hg0, s, hT, hz, hgens, hg, G00, y⟩ := (left.behind (XP := fun mg h => XP mg h ∧ RecFacts r.records h) (fun s hs => ⟨hX s hs, hRf s hs⟩) hch w).2 s' hs'
  have G0 : Ground q loose [] XP w s (s.heap.nsMap mainGlobals) (s.heap.nsMap builtinsNs) s.heap := ⟨G00.T, G00.B, G00.D, G00.TE, G00.TD, G00.W, G00.X.1, G00.cls, G00.has, G00.apart, G00.once, G00.K⟩
  have RF := G00.X.2
  refine ⟨s₀, hf, hg0, s, hT, ?_, RF.1, RF.2.1, ?_⟩
  · intro n hn
    obtain rfl : n = r.name := by split at hn <;> simp_all
    exact pinned_of_view hg G0 hdef hp hk
  have hgens : s.gens = #[] := Array.eq_empty_of_size_eq_zero (beq_iff_eq.mp hgens)
  have G : Ground q loose r.records XP w s _ _ s.heap := RF.ground G0
  refine callFromC (c := r.toRowW.claim) hz hgens fun args hpre hlay ord hord => ?_
  obtain ⟨⟨vs, s₁⟩, hlaid⟩ := Option.isSome_iff_exists.mp (layAllW_isSome (P := w.params) (ord := ord) G.has args r.args s (pre_splitW hpre).1)
  have keeps := layAllW_keeps _ _ _ hlaid
  have hal := layAllW_rest _ _ _ hlaid
  obtain ⟨as, hrd, hin, hold⟩ := reads_layAllW hord _ _ _ hlaid hlay s₁.heap (fun _ _ e => e)
  have L : Laid r.records w s s₁ args vs as := ⟨⟨ord, hord, hlaid⟩, hrd, hin, hold, keeps, hal.1.trans hgens, hal.2.2.1⟩
  have G₁ := G.keeps hXk keeps
  obtain ⟨a, o, pm, cd, doc, dV, kV, h1, h2, h3, h4, h5⟩ := G₁.fn hdef
  have h := call w s s₁ _ _ G₁ (hYk _ _ _ (hY w s y) keeps) a o pm cd doc dV kV h2 h3 h4 h5 (defOf_name hdef ▸ h1) L.gens args vs as hpre hlay L.reads L.well (L.low G.low)
  have hi := ident_freeW hu ha hap
  have hwi : r.toRowW.claim.within = [] := List.isEmpty_iff.mp k6
  refine ⟨vs, s₁, hlaid, ?_⟩
  show wpC _ _ (do match ← nsGet mainNs r.name with
      | some f => do ret (← PySem.call f vs)
      | none => unsupported "claim.caller:no-such-global") _ _
  refine wpC_bind (wpC_any (wpAny_nsGet G₁.T.g ?_))
  rw [h1]
  refine wpC_bind (wpC_mono h fun v s' g => wpC_pure ?_)
  have z := g.laid (c := r.toRowW.claim) hsame hwi hi L
  exact ⟨_, rfl, z.1, z.2.1, z.2.2, fun q => ⟨namesKept_of hT hg r.keeps keeps g.2.1.old, noTable hwr q⟩⟩
end Mine.PySem.W

-- part MyHead
namespace Mine
open_top hd for PySem.Challenge.rw_we0014_01
end Mine

-- part Base
namespace Mine

/-- what stands under the law's call, for good -/
structure Gd (w : World) (p : Program) (loose : List Str) (mean : ExcName → Option Value) (mg mb : Str → Option Value) (G : Heap) : Prop where
  K : (Mine.hd.heap_39 w.params).In G
  T : Top p loose mean mg mb G
  c1 : CodeHd G 41 37
  c2 : CodeHd G 48 44

theorem Gd.keeps {w p loose mean mg mb} {G h : Heap} (x : Gd w p loose mean mg mb G) (k : ∀ b o, G.get? b = some o → h.get? b = some o) : Gd w p loose mean mg mb h :=
  ⟨x.K.keeps k, x.T.keeps k, x.c1.keeps k, x.c2.keeps k⟩

/-- room for n frames more -/
structure Rm (n : Nat) (A : Around) : Prop where
  hh : A.handled = none
  dp : A.depth + n < recursionLimit
  un : A.units + 8 * n + 8 < cLine
theorem Rm.deeper {n : Nat} {A : Around} (r : Rm (n + 1) A) (env : Env) : Rm n (A.deeper env) :=
  ⟨r.hh, by have := r.dp; show A.depth + 1 + n < _; omega, by have := r.un; show A.units + 3 + 8 * n + 8 < _; omega⟩
theorem Rm.less {n k : Nat} {A : Around} (r : Rm n A) (h : k ≤ n) : Rm k A :=
  ⟨r.hh, by have := r.dp; omega, by have := r.un; omega⟩
theorem Rm.room {n : Nat} {A : Around} (r : Rm n A) : A.depth < recursionLimit := by have := r.dp; omega
theorem Rm.units {n : Nat} {A : Around} (r : Rm n A) : A.units < cLine := by have := r.un; omega

/-- all but W stays -/
def Ext (W : List Addr) (h h' : Heap) : Prop := ∀ b o, b ∉ W → h.get? b = some o → h'.get? b = some o
theorem Ext.refl {W : List Addr} {h : Heap} : Ext W h h := fun _ _ _ e => e
theorem Ext.trans {W : List Addr} {h h' h'' : Heap} (x : Ext W h h') (y : Ext W h' h'') : Ext W h h'' := fun b o n e => y b o n (x b o n e)
theorem Ext.wide {W V : List Addr} {h h' : Heap} (x : Ext W h h') (s : ∀ b ∈ W, b ∈ V) : Ext V h h' := fun b o n e => x b o (fun q => n (s b q)) e

section
variable {prog : Program} {w : World} {A : Around} {E : Value → Shared → Prop} {s : Shared} {h₀ h h' : Heap} {L : Addr} {m : Str → Option Value} {news : List (Addr × Obj)} {W : List Addr}

theorem fr_ext (F : Fr h₀ L h m) (x : Ext W h h') (hL : L ∉ W) (hW : ∀ b ∈ W, h₀.get? b = none) : Fr h₀ L h' m :=
  ⟨F.ns.at' fun o e => x _ o hL e, fun b o e => x b o (fun q => by rw [hW b q] at e; cases e) (F.keep b o e), F.above⟩
theorem fr_ext0 (F : Fr h₀ L h m) (x : Ext [] h h') : Fr h₀ L h' m := fr_ext F x (by simp) (by simp)
theorem news_ext (N : News h₀ L h news) (x : Ext W h h') (hW : ∀ p ∈ news, p.1 ∉ W) : News h₀ L h' news := fun p hp => ⟨x _ _ (hW p hp) (N p hp).1, (N p hp).2⟩
theorem news_ext0 (N : News h₀ L h news) (x : Ext [] h h') : News h₀ L h' news := news_ext N x (by simp)
theorem news_add (N : News h₀ L h' news) (F : Fr h₀ L h m) {a : Addr} {o : Obj} (ho : h'.get? a = some o) (hf : h.get? a = none) : News h₀ L h' ((a, o) :: news) := by
  intro p hp
  rcases List.mem_cons.mp hp with rfl | hp
  · refine ⟨ho, fun q => ?_, ?_⟩
    · obtain ⟨oL, _, _, e, _⟩ := F.ns
      rw [← q, hf] at e; cases e
    · cases q : h₀.get? a with
      | none => rfl
      | some o' => have := F.keep _ _ q; rw [hf] at this; cases this
  · exact N p hp

/-- a call of a def of the text without cells of its own -/
theorem rawcall {Q : Value → Shared → Prop} {name qual : Str} {params : Arguments} {body : List Stmt} {scope : Scope} {cl : List (Str × Addr)} {dV kV doc pm cdv ct : Value} {an : Option Addr} {fo : Obj} {f : Addr} {vals : List Value} {binds : List (Str × Value)}
    (W : List Addr) (hlim : s.heap.NoLimit) (ho : s.heap.get? f = some fo) (hd : fo.data = .func (fnX name qual params body scope cl dV kV doc pm an cdv ct)) (hcd : s.heap.CodeRec cdv qual) (hroom : A.depth < recursionLimit)
    (hbind : BindsTo s (fnX name qual params body scope cl dV kV doc pm an cdv ct) ⟨vals, []⟩ binds) (hloc : ∀ y ∈ binds, scope.names.lookup y.1 = some .local)
    (h : ∀ L' h₁, (∀ b o, s.heap.get? b = some o → b < L') → Fr (hideAll s.heap W) L' h₁ (fun y => binds.reverse.lookup y) → (∀ b o, s.heap.get? b = some o → h₁.get? b = some o) →
      wpAny (model prog w) (A.deeper (envX qual scope L' f cdv cl)) (execs body (envX qual scope L' f cdv cl))
        (fun fl s' => Q (match fl with | .ret v => v | _ => .none) s') (fun _ _ => False)
        { s with heap := h₁, toks := s.toks + binds.length })
    (hcell : ∀ x ∈ scope.names, x.2 ≠ .cell) (hco : scope.isCoroutine = false := by rfl) (hgen : scope.isGenerator = false := by rfl) (hk : scope.kind = .function := by rfl) :
    wpAny (model prog w) A (call (.ref f) vals) Q E s := by
  refine wpAny_call ?_
  refine codeAny_call_def (fd := fnX name qual params body scope cl dV kV doc pm an cdv ct) (body := body) (binds := binds) hroom ho hd hlim hcd rfl hbind hcell hloc (fun h₁ hns hk₁ => ?_) hco hgen hk
  exact wpAny_mono (h _ h₁ (fun b o e => Heap.lt_size e) ⟨hns, fun b o e => hk₁ b o (of_hideAll _ e), Nat.le_of_eq (hideAll_size _ _)⟩ hk₁) (fun fl s' hl => hl) fun _ _ y => y.elim

/-- a call of a def of the text with cells -/
theorem rawcallC {Q : Value → Shared → Prop} {name qual : Str} {params : Arguments} {body : List Stmt} {scope : Scope} {dV kV doc pm cdv ct : Value} {an : Option Addr} {fo : Obj} {f : Addr} {vals : List Value} {binds : List (Str × Value)}
    (W : List Addr) (hlim : s.heap.NoLimit) (ho : s.heap.get? f = some fo) (hd : fo.data = .func (fnX name qual params body scope [] dV kV doc pm an cdv ct)) (hcd : s.heap.CodeRec cdv qual) (hroom : A.depth < recursionLimit)
    (hbind : BindsTo s (fnX name qual params body scope [] dV kV doc pm an cdv ct) ⟨vals, []⟩ binds)
    (hkind : ∀ n, ∀ x ∈ binds, scope.names.lookup x.1 = some .local ∨ (scope.names.lookup x.1 = some .cell ∧ ((cellsFrom n scope.names []).lookup x.1).isSome = true))
    (hnd : ((cellsFrom 0 scope.names []).map (·.1)).Nodup)
    (h : ∀ L' h₁ tk cells, (∀ b o, s.heap.get? b = some o → b < L') → Fr (hideAll s.heap W) L' h₁ (bindL (envOfC qual scope L' f cdv).kindOf binds fun _ => none) → (∀ b o, s.heap.get? b = some o → h₁.get? b = some o) →
      News (hideAll s.heap W) L' h₁ cells → CellsAre (bindC (envOfC qual scope L' f cdv).kindOf binds fun _ => none) (cellsFrom (L' + 1) scope.names []) cells →
      wpAny (model prog w) (A.deeper (envOfC qual scope L' f cdv)) (execs body (envOfC qual scope L' f cdv))
        (fun fl s' => Q (match fl with | .ret v => v | _ => .none) s') (fun _ _ => False)
        { s with heap := h₁, toks := tk })
    (hco : scope.isCoroutine = false := by rfl) (hgen : scope.isGenerator = false := by rfl) (hk : scope.kind = .function := by rfl) :
    wpAny (model prog w) A (call (.ref f) vals) Q E s := by
  refine wpAny_call ?_
  refine codeAny_call_function hroom ho hd hco hgen rfl hcd (hbind _ _ _ _ ?_)
  refine wpAny_newFunctionEnv_cells hk (hkind _) fun env' he s' x => ?_
  subst he
  refine ⟨hlim.keeps x.toInCall.keep, codeAny_func ?_⟩
  obtain ⟨h₁, tk, rfl, _⟩ := x.done
  have hk₁ := x.toInCall.keep
  obtain ⟨cells, NC, Y⟩ := Cl.news (h₀ := s.heap) (Nat.le_refl _) fun n c hm => ⟨x.cell n c (lookup_of_mem_nodup (cellsFrom_names scope.names 0 (s.heap.objs.size + 1) [] [] rfl ▸ hnd) hm), x.above n c hm⟩
  refine wpAny_mono (h s.heap.objs.size h₁ tk cells (fun b o e => Heap.lt_size e) ⟨x.toInCall.ns, fun b o e => hk₁ b o (of_hideAll _ e), Nat.le_of_eq (hideAll_size _ _)⟩ hk₁ (fun p hp => ?_) Y) (fun fl s' hl => hl) fun _ _ y => y.elim
  refine ⟨(NC p hp).1, (NC p hp).2.1, ?_⟩
  cases q : (hideAll s.heap W).get? p.1 with
  | none => rfl
  | some o => have := of_hideAll _ q; rw [(NC p hp).2.2] at this; cases this

variable {p : Program} {loose : List Str} {mean : ExcName → Option Value} {mg mb : Str → Option Value} {G : Heap}

theorem hide_sub {W : List Addr} (hG : ∀ b o, G.get? b = some o → h.get? b = some o) (hW : ∀ b ∈ W, G.get? b = none) : ∀ b o, G.get? b = some o → (hideAll h W).get? b = some o :=
  fun b o e => hideAll_get _ (hG b o e) fun q => by rw [hW b q] at e; cases e
theorem ext_of_fr {W : List Addr} (F : Fr (hideAll h W) L h' m) : Ext W h h' := fun b o n e => F.keep b o (hideAll_get _ e n)
theorem ext_of_fr0 (F : Fr (hideAll h []) L h' m) : Ext [] h h' := ext_of_fr F

theorem callK {Q : Value → Shared → Prop} {name qual : Str} {params : Arguments} {body : List Stmt} {scope : Scope} {dV kV doc pm cdv ct oc : Value} {an od : Option Addr} {osl : Array (Option Value)} {f : Addr} {vals : List Value} {binds : List (Str × Value)}
    (W : List Addr) (D : Gd w p loose mean mg mb G) (hG : ∀ b o, G.get? b = some o → s.heap.get? b = some o) (hW : ∀ b ∈ W, G.get? b = none) (hroom : A.depth < recursionLimit)
    (ho : (Mine.hd.heap_39 w.params).lookup f = some ⟨oc, od, .func (fnX name qual params body scope [] dV kV doc pm an cdv ct), osl⟩) (hcd : codeIn (Mine.hd.heap_39 w.params) cdv qual = true)
    (hbind : BindsTo s (fnX name qual params body scope [] dV kV doc pm an cdv ct) ⟨vals, []⟩ binds) (hloc : ∀ y ∈ binds, scope.names.lookup y.1 = some .local)
    (h : ∀ g L' h₁, Gd w p loose mean mg mb g → (∀ b o, s.heap.get? b = some o → b < L') → (Ext W s.heap g ∧ ∀ b o, g.get? b = some o → s.heap.get? b = some o) → (∀ b ∈ W, g.get? b = none) → Fr g L' h₁ (fun y => binds.reverse.lookup y) → (∀ b o, s.heap.get? b = some o → h₁.get? b = some o) → (Mine.hd.heap_39 w.params).In g → Top p loose mean mg mb g →
      wpAny (model prog w) (A.deeper (envX qual scope L' f cdv [])) (execs body (envX qual scope L' f cdv []))
        (fun fl s' => Q (match fl with | .ret v => v | _ => .none) s') (fun _ _ => False)
        { s with heap := h₁, toks := s.toks + binds.length })
    (hcell : ∀ x ∈ scope.names, x.2 ≠ .cell) (hco : scope.isCoroutine = false) (hgen : scope.isGenerator = false) (hk : scope.kind = .function) :
    wpAny (model prog w) A (call (.ref f) vals) Q E s :=
  rawcall W (D.T.nolimit.keeps hG) (D.K.keeps hG _ _ ho) rfl (codeRec_of (D.K.keeps hG) hcd) hroom hbind hloc (fun L' h₁ lt F old =>
    have D' := D.keeps (hide_sub hG hW)
    h (hideAll s.heap W) L' h₁ D' lt ⟨fun b o n e => hideAll_get _ e n, fun b o e => of_hideAll _ e⟩ (fun b hb => hideAll_none _ hb) F old D'.K D'.T) hcell hco hgen hk

theorem callKC {Q : Value → Shared → Prop} {name qual : Str} {params : Arguments} {body : List Stmt} {scope : Scope} {dV kV doc pm cdv ct oc : Value} {an od : Option Addr} {osl : Array (Option Value)} {f : Addr} {vals : List Value} {binds : List (Str × Value)}
    (W : List Addr) (D : Gd w p loose mean mg mb G) (hG : ∀ b o, G.get? b = some o → s.heap.get? b = some o) (hW : ∀ b ∈ W, G.get? b = none) (hroom : A.depth < recursionLimit)
    (ho : (Mine.hd.heap_39 w.params).lookup f = some ⟨oc, od, .func (fnX name qual params body scope [] dV kV doc pm an cdv ct), osl⟩) (hcd : codeIn (Mine.hd.heap_39 w.params) cdv qual = true)
    (hbind : BindsTo s (fnX name qual params body scope [] dV kV doc pm an cdv ct) ⟨vals, []⟩ binds)
    (hkind : (binds.all fun y => scope.names.lookup y.1 == some .local || scope.names.lookup y.1 == some .cell) = true)
    (hnd : ((cellsFrom 0 scope.names []).map (·.1)).Nodup)
    (h : ∀ g L' h₁ tk cells, Gd w p loose mean mg mb g → (∀ b o, s.heap.get? b = some o → b < L') → (Ext W s.heap g ∧ ∀ b o, g.get? b = some o → s.heap.get? b = some o) → (∀ b ∈ W, g.get? b = none) → Fr g L' h₁ (bindL (envOfC qual scope L' f cdv).kindOf binds fun _ => none) → (∀ b o, s.heap.get? b = some o → h₁.get? b = some o) → (Mine.hd.heap_39 w.params).In g → Top p loose mean mg mb g →
      News g L' h₁ cells → CellsAre (bindC (envOfC qual scope L' f cdv).kindOf binds fun _ => none) (cellsFrom (L' + 1) scope.names []) cells →
      wpAny (model prog w) (A.deeper (envOfC qual scope L' f cdv)) (execs body (envOfC qual scope L' f cdv))
        (fun fl s' => Q (match fl with | .ret v => v | _ => .none) s') (fun _ _ => False)
        { s with heap := h₁, toks := tk })
    (hco : scope.isCoroutine = false) (hgen : scope.isGenerator = false) (hk : scope.kind = .function) :
    wpAny (model prog w) A (call (.ref f) vals) Q E s :=
  rawcallC W (D.T.nolimit.keeps hG) (D.K.keeps hG _ _ ho) rfl (codeRec_of (D.K.keeps hG) hcd) hroom hbind (kindsX hkind) hnd (fun L' h₁ tk cells lt F old N Y =>
    have D' := D.keeps (hide_sub hG hW)
    h (hideAll s.heap W) L' h₁ tk cells D' lt ⟨fun b o n e => hideAll_get _ e n, fun b o e => of_hideAll _ e⟩ (fun b hb => hideAll_none _ hb) F old D'.K D'.T N Y) hco hgen hk

/-- as callK, over clean stacks -/
theorem callKD {Q : Value → Shared → Prop} {name qual : Str} {params : Arguments} {body : List Stmt} {scope : Scope} {dV kV doc pm cdv ct oc : Value} {an od : Option Addr} {osl : Array (Option Value)} {f : Addr} {vals : List Value} {binds : List (Str × Value)}
    (W : List Addr) (D : Gd w p loose mean mg mb G) (hG : ∀ b o, G.get? b = some o → s.heap.get? b = some o) (hW : ∀ b ∈ W, G.get? b = none) (hroom : A.depth < recursionLimit)
    (ho : (Mine.hd.heap_39 w.params).lookup f = some ⟨oc, od, .func (fnX name qual params body scope [] dV kV doc pm an cdv ct), osl⟩) (hcd : codeIn (Mine.hd.heap_39 w.params) cdv qual = true)
    (hbind : BindsTo s (fnX name qual params body scope [] dV kV doc pm an cdv ct) ⟨vals, []⟩ binds) (hloc : ∀ y ∈ binds, scope.names.lookup y.1 = some .local)
    (h : ∀ g L' h₁, Gd w p loose mean mg mb g → (∀ b o, s.heap.get? b = some o → b < L') → (Ext W s.heap g ∧ ∀ b o, g.get? b = some o → s.heap.get? b = some o) → (∀ b ∈ W, g.get? b = none) → Fr g L' h₁ (fun y => binds.reverse.lookup y) → (∀ b o, s.heap.get? b = some o → h₁.get? b = some o) → (Mine.hd.heap_39 w.params).In g → Top p loose mean mg mb g →
      wpC (model prog w) (A.deeper (envX qual scope L' f cdv [])) (execs body (envX qual scope L' f cdv []))
        (fun fl s' => Q (match fl with | .ret v => v | _ => .none) s') { s with heap := h₁, toks := s.toks + binds.length })
    (hcell : ∀ x ∈ scope.names, x.2 ≠ .cell) (hco : scope.isCoroutine = false) (hgen : scope.isGenerator = false) (hk : scope.kind = .function) :
    wpC (model prog w) A (call (.ref f) vals) Q s := by
  have hlim := D.T.nolimit.keeps hG
  have D' := D.keeps (hide_sub (W := W) hG hW)
  refine wpC_call (codeC_call_function (fd := fnX name qual params body scope [] dV kV doc pm an cdv ct) (body := body) hroom (D.K.keeps hG _ _ ho) rfl hco hgen rfl (codeRec_of (D.K.keeps hG) hcd) (hbind _ _ _ _ ?_))
  refine wpAny_newFunctionEnv hcell hloc (fun h₁ hns hsb => ⟨hlim.fresh _ hsb, codeC_func ?_⟩) hk
  have hk₁ : ∀ b o, s.heap.get? b = some o → h₁.get? b = some o := fun b o e => hsb.extBut b o (Nat.ne_of_lt (Heap.lt_size e)) (Heap.get?_push_of_some _ e)
  exact h (hideAll s.heap W) _ h₁ D' (fun b o e => Heap.lt_size e) ⟨fun b o n e => hideAll_get _ e n, fun b o e => of_hideAll _ e⟩ (fun b hb => hideAll_none _ hb) ⟨hns, fun b o e => hk₁ b o (of_hideAll _ e), Nat.le_of_eq (hideAll_size _ _)⟩ hk₁ D'.K D'.T
end
end Mine

section
local macro_rules | `(tactic| k_units) => `(tactic| (have hcL9 := cLine_is; (simp only [units_in1, units_deeper, Around.mark_units, units_caller] at *); omega))
local macro_rules | `(tactic| k_room) => `(tactic| ((simp only [depth_under_make, depth_under_kw, depth_in1, depth_deeper, depth_caller, recursionLimit] at *); omega))

-- part Ops
namespace Mine
theorem kfill_one : PySem.Challenge.rw_we0014_01 = PySem.Challenge.rw_we0014_01 ∧ Mine.hd.heap_39 = Mine.hd.heap_39 := by k_fill; w_top off; exact ⟨rfl, rfl⟩
section
variable {prog : Program} {w : World} {A : Around} {E : Value → Shared → Prop} {s : Shared} {p : Program} {loose : List Str} {mean : ExcName → Option Value} {mg mb : Str → Option Value} {G : Heap}

theorem and_spec {a b : Int} {t u : Tok} {Q : Value → Shared → Prop} (D : Gd w p loose mean mg mb G) (hG : ∀ b o, G.get? b = some o → s.heap.get? b = some o) (r : Rm 1 A) 
    (ret : ∀ v h' tk, Ext [] s.heap h' → Q (.int (Builtin.bitAnd a b) v) { s with heap := h', toks := tk }) : wpAny (model prog w) A (call (.ref 70) [.int a t, .int b u]) Q E s := by
  obtain ⟨hd, dp, fr, gd, un⟩ := A
  obtain rfl : hd = none := r.hh
  have rd := r.dp
  have ru := r.un
  dsimp only at rd ru
  refine' callK (binds := [(Str.ofString "a", .int a t), (Str.ofString "b", .int b u)]) [] D hG (by simp) r.room ?ko ?kc (BindsTo.of_eq ?kb) ?kloc ?_ ?kcell ?c2 ?c3 ?c4
  case ko => k_is
  case kc => k_is
  case kb => rfl
  case kloc => exact locs rfl
  case kcell => decide
  case c2 => rfl
  case c3 => rfl
  case c4 => rfl
  intro g L' h₁ Dg lt xt wt F old X T
  simp only [List.reverse_cons, List.reverse_nil, List.nil_append, List.cons_append, List.length_cons, List.length_nil] at F ⊢
  have N : News g L' h₁ [] := News.nil
  try dsimp only

  k_steps
  exact ret _ _ _ (xt.1.trans fun b o _ e => F.keep b o e)

theorem or_spec {a b : Int} {t u : Tok} {Q : Value → Shared → Prop} (D : Gd w p loose mean mg mb G) (hG : ∀ b o, G.get? b = some o → s.heap.get? b = some o) (r : Rm 1 A) 
    (ret : ∀ v h' tk, Ext [] s.heap h' → Q (.int (Builtin.bitOr a b) v) { s with heap := h', toks := tk }) : wpAny (model prog w) A (call (.ref 91) [.int a t, .int b u]) Q E s := by
  obtain ⟨hd, dp, fr, gd, un⟩ := A
  obtain rfl : hd = none := r.hh
  have rd := r.dp
  have ru := r.un
  dsimp only at rd ru
  refine' callK (binds := [(Str.ofString "a", .int a t), (Str.ofString "b", .int b u)]) [] D hG (by simp) r.room ?ko ?kc (BindsTo.of_eq ?kb) ?kloc ?_ ?kcell ?c2 ?c3 ?c4
  case ko => k_is
  case kc => k_is
  case kb => rfl
  case kloc => exact locs rfl
  case kcell => decide
  case c2 => rfl
  case c3 => rfl
  case c4 => rfl
  intro g L' h₁ Dg lt xt wt F old X T
  simp only [List.reverse_cons, List.reverse_nil, List.nil_append, List.cons_append, List.length_cons, List.length_nil] at F ⊢
  have N : News g L' h₁ [] := News.nil
  try dsimp only

  k_steps
  exact ret _ _ _ (xt.1.trans fun b o _ e => F.keep b o e)

theorem xor_spec {a b : Int} {t u : Tok} {Q : Value → Shared → Prop} (D : Gd w p loose mean mg mb G) (hG : ∀ b o, G.get? b = some o → s.heap.get? b = some o) (r : Rm 1 A) 
    (ret : ∀ v h' tk, Ext [] s.heap h' → Q (.int (Builtin.bitXor a b) v) { s with heap := h', toks := tk }) : wpAny (model prog w) A (call (.ref 105) [.int a t, .int b u]) Q E s := by
  obtain ⟨hd, dp, fr, gd, un⟩ := A
  obtain rfl : hd = none := r.hh
  have rd := r.dp
  have ru := r.un
  dsimp only at rd ru
  refine' callK (binds := [(Str.ofString "a", .int a t), (Str.ofString "b", .int b u)]) [] D hG (by simp) r.room ?ko ?kc (BindsTo.of_eq ?kb) ?kloc ?_ ?kcell ?c2 ?c3 ?c4
  case ko => k_is
  case kc => k_is
  case kb => rfl
  case kloc => exact locs rfl
  case kcell => decide
  case c2 => rfl
  case c3 => rfl
  case c4 => rfl
  intro g L' h₁ Dg lt xt wt F old X T
  simp only [List.reverse_cons, List.reverse_nil, List.nil_append, List.cons_append, List.length_cons, List.length_nil] at F ⊢
  have N : News g L' h₁ [] := News.nil
  try dsimp only

  k_steps
  exact ret _ _ _ (xt.1.trans fun b o _ e => F.keep b o e)

theorem rshift_spec {a b : Int} {t u : Tok} {Q : Value → Shared → Prop} (D : Gd w p loose mean mg mb G) (hG : ∀ b o, G.get? b = some o → s.heap.get? b = some o) (r : Rm 1 A) (hb : 0 ≤ b) 
    (ret : ∀ v h' tk, Ext [] s.heap h' → Q (.int (a.fdiv (2 ^ b.toNat)) v) { s with heap := h', toks := tk }) : wpAny (model prog w) A (call (.ref 98) [.int a t, .int b u]) Q E s := by
  obtain ⟨hd, dp, fr, gd, un⟩ := A
  obtain rfl : hd = none := r.hh
  have rd := r.dp
  have ru := r.un
  dsimp only at rd ru
  refine' callK (binds := [(Str.ofString "a", .int a t), (Str.ofString "b", .int b u)]) [] D hG (by simp) r.room ?ko ?kc (BindsTo.of_eq ?kb) ?kloc ?_ ?kcell ?c2 ?c3 ?c4
  case ko => k_is
  case kc => k_is
  case kb => rfl
  case kloc => exact locs rfl
  case kcell => decide
  case c2 => rfl
  case c3 => rfl
  case c4 => rfl
  intro g L' h₁ Dg lt xt wt F old X T
  simp only [List.reverse_cons, List.reverse_nil, List.nil_append, List.cons_append, List.length_cons, List.length_nil] at F ⊢
  have N : News g L' h₁ [] := News.nil
  try dsimp only

  refine wpAny_execs_cons ?_
  refine wpAny_Return_some ?_
  refine wpAny_BinOp ?_
  walk1
  walk1
  refine rshift_int hb ?_
  exact ret _ _ _ (xt.1.trans fun b o _ e => F.keep b o e)

theorem lshift_spec {a b : Int} {t u : Tok} {Q : Value → Shared → Prop} (D : Gd w p loose mean mg mb G) (hG : ∀ b o, G.get? b = some o → s.heap.get? b = some o) (r : Rm 1 A) (hb : 0 ≤ b) (hb2 : b ≤ 1000000) (ha : a.natAbs < 2 ^ 64) 
    (ret : ∀ v h' tk, Ext [] s.heap h' → Q (.int (a * 2 ^ b.toNat) v) { s with heap := h', toks := tk }) : wpAny (model prog w) A (call (.ref 77) [.int a t, .int b u]) Q E s := by
  obtain ⟨hd, dp, fr, gd, un⟩ := A
  obtain rfl : hd = none := r.hh
  have rd := r.dp
  have ru := r.un
  dsimp only at rd ru
  refine' callK (binds := [(Str.ofString "a", .int a t), (Str.ofString "b", .int b u)]) [] D hG (by simp) r.room ?ko ?kc (BindsTo.of_eq ?kb) ?kloc ?_ ?kcell ?c2 ?c3 ?c4
  case ko => k_is
  case kc => k_is
  case kb => rfl
  case kloc => exact locs rfl
  case kcell => decide
  case c2 => rfl
  case c3 => rfl
  case c4 => rfl
  intro g L' h₁ Dg lt xt wt F old X T
  simp only [List.reverse_cons, List.reverse_nil, List.nil_append, List.cons_append, List.length_cons, List.length_nil] at F ⊢
  have N : News g L' h₁ [] := News.nil
  try dsimp only

  refine wpAny_execs_cons ?_
  refine wpAny_Return_some ?_
  refine wpAny_BinOp ?_
  walk1
  walk1
  refine lshift_int_small hb hb2 ha ?_
  exact ret _ _ _ (xt.1.trans fun b o _ e => F.keep b o e)

theorem mul_spec {a b : Int} {t u : Tok} {Q : Value → Shared → Prop} (D : Gd w p loose mean mg mb G) (hG : ∀ b o, G.get? b = some o → s.heap.get? b = some o) (r : Rm 1 A) (hm : IntMulOk a b) 
    (ret : ∀ v h' tk, Ext [] s.heap h' → Q (.int (a * b) v) { s with heap := h', toks := tk }) : wpAny (model prog w) A (call (.ref 84) [.int a t, .int b u]) Q E s := by
  obtain ⟨hd, dp, fr, gd, un⟩ := A
  obtain rfl : hd = none := r.hh
  have rd := r.dp
  have ru := r.un
  dsimp only at rd ru
  refine' callK (binds := [(Str.ofString "a", .int a t), (Str.ofString "b", .int b u)]) [] D hG (by simp) r.room ?ko ?kc (BindsTo.of_eq ?kb) ?kloc ?_ ?kcell ?c2 ?c3 ?c4
  case ko => k_is
  case kc => k_is
  case kb => rfl
  case kloc => exact locs rfl
  case kcell => decide
  case c2 => rfl
  case c3 => rfl
  case c4 => rfl
  intro g L' h₁ Dg lt xt wt F old X T
  simp only [List.reverse_cons, List.reverse_nil, List.nil_append, List.cons_append, List.length_cons, List.length_nil] at F ⊢
  have N : News g L' h₁ [] := News.nil
  try dsimp only

  refine wpAny_execs_cons ?_
  refine wpAny_Return_some ?_
  refine wpAny_BinOp ?_
  walk1
  walk1
  refine mul_int ?_ hm
  exact ret _ _ _ (xt.1.trans fun b o _ e => F.keep b o e)

end
end Mine

-- part Plain
namespace Mine
theorem bit_small (x : Int) : (Builtin.bitAnd x 1).natAbs < 2 ^ 64 := by
  rw [bitAnd_m1]; omega
/-- one step of the register -/
def stepF (taps size st : Int) : Int :=
  let f0 := Builtin.bitAnd st taps
  let f1 := Builtin.bitXor f0 (f0.fdiv (2 ^ (2 : Int).toNat))
  let f2 := Builtin.bitXor f1 (f1.fdiv (2 ^ (1 : Int).toNat))
  Builtin.bitOr (st.fdiv (2 ^ (1 : Int).toNat)) (Builtin.bitAnd f2 1 * 2 ^ (size - 1).toNat)
def stN (taps size start : Int) : Nat → Int
  | 0 => start
  | n + 1 => stepF taps size (stN taps size start n)
def statesF (taps size start : Int) (n : Nat) : List Int := (List.range n).map (stN taps size start)
def rowF (taps size start : Int) (n : Nat) : List Int := (List.range n).map fun i => Builtin.bitAnd (stN taps size start i) 1
theorem statesF_succ (taps size start : Int) (n : Nat) : statesF taps size start (n + 1) = statesF taps size start n ++ [stN taps size start n] := by simp [statesF, List.range_succ]
theorem rowF_succ (taps size start : Int) (n : Nat) : rowF taps size start (n + 1) = rowF taps size start n ++ [Builtin.bitAnd (stN taps size start n) 1] := by simp [rowF, List.range_succ]
theorem statesF_len (taps size start : Int) (n : Nat) : (statesF taps size start n).length = n := by simp [statesF]
theorem rowF_len (taps size start : Int) (n : Nat) : (rowF taps size start n).length = n := by simp [rowF]
theorem row_bit (x : Int) : 0 ≤ Builtin.bitAnd x 1 ∧ Builtin.bitAnd x 1 < 256 := by rw [bitAnd_m1]; omega
theorem rowF_bits (taps size start : Int) (n : Nat) : ∀ x ∈ rowF taps size start n, 0 ≤ x ∧ x < 256 := by
  intro x hx
  obtain ⟨i, _, rfl⟩ := List.mem_map.mp hx
  exact row_bit _
end Mine

-- part BaFacts
namespace Mine
namespace Ba
theorem mro : mroOf (.type "bytearray") = pure [.type "bytearray", .type "object"] := by rw [mroOf_type]; kernel_rfl
theorem lookup_new : typeLookup (.type "bytearray") "__new__" = pure (some (.builtin "bytearray.__new__")) := by rw [typeLookup_type, builtinLookup_eq_fast]; kernel_rfl
theorem slot_init : Slot "bytearray" "__init__" "bytearray.__init__" :=
  .of (owner := "bytearray") (n := "__init__") (by rw [typeLookup_type, builtinLookup_eq_fast]; kernel_rfl) (by decide +kernel) (by decide +kernel) (by decide +kernel)
    (by first | exact .inl (by decide +kernel) | exact .inr (by decide +kernel)) (by rw [isSubtype_type]; kernel_rfl)
theorem called : TypeCalled "bytearray" "bytearray.__new__" "bytearray.__init__" :=
  ⟨by decide +kernel, by decide +kernel, ⟨_, _, mro⟩, madeBy_type mro lookup_new (by decide +kernel), by decide +kernel, by rw [isSubtype_type]; kernel_rfl, slot_init⟩
theorem typeCall (a : Value) : checkTypeCall "bytearray" ⟨[a], []⟩ = pure () := by kernel_rfl
theorem newCall (a : Value) : checkBuiltinCall "bytearray.__new__" ⟨[.type "bytearray", a], []⟩ = pure () := by kernel_rfl
theorem entry_new : entryFor table "bytearray.__new__" = some Builtin.«list.__new__» := entryFor_alias (id' := "list.__new__") (by rw [fastTable_eq_tree]; kernel_rfl) (by decide +kernel) (by decide +kernel) (by rw [fastTable_eq_tree]; kernel_rfl)
theorem entry_init : entryFor table "bytearray.__init__" = some Builtin.«bytearray.__init__» := entryFor_of_tree (by kernel_rfl)
theorem entry_set : entryFor table "bytearray.__setitem__" = some Builtin.«bytearray.__setitem__» := entryFor_of_tree (by kernel_rfl)
theorem plain_new : plainId "bytearray.__new__" = true := by decide +kernel
theorem sub_self : isSubtype (.type "bytearray") (.type "bytearray") = pure true := by rw [isSubtype_type]; kernel_rfl
theorem look_release : typeLookup (.type "bytearray") "__release_buffer__" = pure (some (.builtin "bytearray.__release_buffer__")) := by rw [typeLookup_type, builtinLookup_eq_fast]; kernel_rfl
theorem look_buffer : typeLookup (.type "bytearray") "__buffer__" = pure (some (.builtin "bytearray.__buffer__")) := by rw [typeLookup_type, builtinLookup_eq_fast]; kernel_rfl
theorem none_bytes : typeLookup (.type "bytearray") "__bytes__" = pure none := by rw [typeLookup_type, builtinLookup_eq_fast]; kernel_rfl
theorem none_index : typeLookup (.type "bytearray") "__index__" = pure none := by rw [typeLookup_type, builtinLookup_eq_fast]; kernel_rfl
theorem bind_init (v : Value) : Builtin.Bytes.bindOptional "bytearray.__init__" "bytearray" ["source", "encoding", "errors"] [v] [] = pure [some v, none, none] := by kernel_rfl
theorem slot_set : Slot "bytearray" "__setitem__" "bytearray.__setitem__" :=
  .of (owner := "bytearray") (n := "__setitem__") (by rw [typeLookup_type, builtinLookup_eq_fast]; kernel_rfl) (by decide +kernel) (by decide +kernel) (by decide +kernel)
    (by first | exact .inl (by decide +kernel) | exact .inr (by decide +kernel)) (by rw [isSubtype_type]; kernel_rfl)
set_option maxRecDepth 1000000 in
theorem owner_new : ("bytearray.__new__".splitOn ".__new__").headD "" = "bytearray" := by simp +decide [String.splitOn, String.splitOnAux]
end Ba
section
variable {prog : Program} {w : World} {A : Around} {E : Value → Shared → Prop} {s : Shared}
theorem code_ba_new (a : Value) {Q₁ : Value → Shared → Prop}
    (h : Q₁ (.ref s.heap.objs.size) { s with heap := s.heap.push { cls := .type "bytearray", data := .bytearray #[] } }) :
    codeAny (model prog w) A (.call (.builtin "bytearray.__new__") ⟨[.type "bytearray", a], []⟩) (wants Q₁ E) s := by
  refine codeAny_of_tree ?_
  show wpAny _ A.in1 (do checkBuiltinCall "bytearray.__new__" ⟨[.type "bytearray", a], []⟩; again (.builtin "bytearray.__new__" ⟨[.type "bytearray", a], []⟩)) _ _ s
  refine wpAny_bind (wpAny_of_eq (Ba.newCall a) (wpAny_pure ⟨plainId_quiet Ba.plain_new _, codeAny_builtin_stack Ba.entry_new rfl fun p st => ?_⟩))
  rw [Around.under_plainId Ba.plain_new _]
  have hsub := Ba.sub_self
  have hown := Ba.owner_new
  obtain ⟨hp, g, d, tk, os⟩ := s
  simp only [hown]
  wp_walk
  exact h

end
end Mine

-- part Ba
namespace Mine
section
variable {prog : Program} {w : World} {A : Around} {E : Value → Shared → Prop} {s : Shared}
theorem wpC_ite_f {α : Type} {M : Model} {c : Bool} {a b : Sem α} {Q : α → Shared → Prop} (hc : c = false) (h : wpC M A b Q s) : wpC M A (if c = true then a else b) Q s := by
  subst hc
  exact h
theorem wpC_of_eq {α : Type} {M : Model} {t : Sem α} {a : α} {Q : α → Shared → Prop} (e : t = pure a) (h : Q a s) : wpC M A t Q s := by
  rw [e]
  exact wpC_pure h

theorem den_builtin {id : String} {args : Args} {b : Builtin} (hb : entryFor table id = some b) : (model prog w).den (.builtin id args) = b args := by
  show (match entryFor table id with | some b => b args | none => unsupported ((withoutEnding? id "#data").getD id)) = _
  rw [hb]
theorem codeC_call_builtin {id : String} {args : Args} {b : Builtin} {R : Flow → Shared → Prop} (hq : plainId id = true) (hcl : dirtyIds.contains id = false) (hb : entryFor table id = some b)
    (h : wpAny (model prog w) A.in1 (checkBuiltinCall id args) (fun _ s₁ => wpC (model prog w) A.in1 (b args)
      (fun fin s' => match fin with | .done f => R f s' | .again c' => c'.quiet = true ∧ codeC (model prog w) A c' R s') s₁) (fun _ _ => False) s) : codeC (model prog w) A (.call (.builtin id) args) R s := by
  refine codeC_of_tree .call ?_
  show wpC _ A.in1 (do checkBuiltinCall id args; again (.builtin id args)) _ s
  refine wpC_bind (wpC_mono (wpC_any h) fun _ s₁ h₁ => wpC_pure ⟨plainId_quiet hq args, codeC_of_tree (.builtin hcl) ?_⟩)
  rw [Around.under_plainId hq args]
  show wpC _ _ (match entryFor table id with | some b => b args | none => unsupported ((withoutEnding? id "#data").getD id)) _ s₁
  rw [hb]
  exact h₁
/-- bytearray(..) over clean stacks: the new object, then __init__'s own tree -/
theorem call_bytearray {args : List Value} {Q : Value → Shared → Prop} (hct : checkTypeCall "bytearray" ⟨args, []⟩ = pure ()) (hok : ∀ obj, argsOk "bytearray.__init__" ⟨obj :: args, []⟩)
    (hnew : codeAny (model prog w) A.in1 (.call (.builtin "bytearray.__new__") ⟨.type "bytearray" :: args, []⟩) (wants (fun obj s₁ => obj = .ref s.heap.objs.size ∧ s₁ = { s with heap := s.heap.push { cls := .type "bytearray", data := .bytearray #[] } }) (fun _ _ => False)) s)
    (h : wpC (model prog w) A.in1.in1 (Builtin.«bytearray.__init__» ⟨.ref s.heap.objs.size :: args, []⟩)
      (fun fin s' => fin = .done (.ret .none) ∧ Q (.ref s.heap.objs.size) s') { s with heap := s.heap.push { cls := .type "bytearray", data := .bytearray #[] } }) :
    wpC (model prog w) A (call (.type "bytearray") args) Q s := by
  have ft := Ba.called
  have hmro := Ba.mro
  have hmade := ft.made
  refine wpC_call (codeC_of_tree .call ?_)
  show wpC _ _ (callAny (.type "bytearray") _) _ _
  refine wpC_pure ⟨Code.quiet_builtin _ (by decide +kernel), codeC_of_tree (.builtin (by decide +kernel)) ?_⟩
  have hden : (model prog w).den (.builtin "type.__call__" ⟨.type "bytearray" :: args, []⟩) = Builtin.«type.__call__» ⟨.type "bytearray" :: args, []⟩ := den_builtin F.entry_type_call
  rw [hden, Around.under_plain (weight_type_call_type "bytearray" args []) rfl]
  unfold Builtin.«type.__call__»
  have h1 := ft.notType
  have h2 := ft.canCreate
  simp only [h1, h2, hct, hmro, hmade, pure_bind, Bool.false_eq_true, if_false, List.isEmpty_cons]
  clear h2 hden
  refine wpC_bind (wpC_holding (wpC_call (codeC_any (codeAny_mono hnew fun r s₁ hr => ?_))))
  cases r with
  | error e => exact hr.elim
  | ok fl =>
    cases fl with
    | next => exact hr.elim
    | brk => exact hr.elim
    | cont => exact hr.elim
    | ret obj =>
      obtain ⟨rfl, rfl⟩ := hr
      have hT : ({ s with heap := s.heap.push { cls := .type "bytearray", data := .bytearray #[] } } : Shared).TypeIs (.ref s.heap.objs.size) "bytearray" := ⟨_, Heap.get?_push_size _ rfl, rfl⟩
      refine wpC_bind (wpC_any (wpAny_isInstance hT Ba.sub_self ?_))
      refine wpC_ite_f rfl ?_
      refine wpC_bind (wpC_holding ?_)
      unfold callSpecial?
      refine wpC_bind (wpC_any (wpAny_specialOf hT ft.init.lookup ?_))
      refine wpC_holding (wpC_bind (wpC_of_eq (ft.init.bind _) ?_))
      refine wpC_bind (wpC_call (codeC_call_builtin ft.init.plain (by decide +kernel) Ba.entry_init (ft.init.check _ _ _ _ _ _ _ _ hT (hok _) (wpC_mono h fun fin s' hf => ?_))))
      obtain ⟨rfl, hq⟩ := hf
      refine wpC_pure ?_
      exact wpC_pure hq
end
end Mine

-- part Ba2
namespace Mine
/-- a bytearray as it lies -/
abbrev baObj (b : Array UInt8) : Obj := { cls := .type "bytearray", data := .bytearray b }
section
variable {M : Model} {A : Around} {E : Value → Shared → Prop} {s : Shared} {S : Addr} {b : Array UInt8}
theorem ba_type (ho : s.heap.get? S = some (baObj b)) : s.TypeIs (.ref S) "bytearray" := ⟨_, ho, rfl⟩
theorem ba_own {name : String} {id : String} {Q : Bool → Shared → Prop} (ho : s.heap.get? S = some (baObj b)) (hl : typeLookup (.type "bytearray") (Str.ofString name) = pure (some (.builtin id)))
    (he : id.endsWith ("." ++ name) = true) (hd : id.dropRight (name.length + 1) = "bytearray") (h : Q true s) : wpAny M A (Builtin.Bytes.slotIsOwn (.ref S) name) Q E s := by
  unfold Builtin.Bytes.slotIsOwn
  refine wpAny_bind (wpAny_specialOf (ba_type ho) hl ?_)
  dsimp only
  rw [he, hd]
  exact wpAny_isInstance (ba_type ho) Ba.sub_self h
theorem ba_release {Q : Bool → Shared → Prop} (ho : s.heap.get? S = some (baObj b)) (h : Q false s) : wpAny M A (Builtin.Bytes.ownRelease (.ref S)) Q E s := by
  unfold Builtin.Bytes.ownRelease
  exact wpAny_bind (ba_own ho Ba.look_release (by decide +kernel) (by decide +kernel) (wpAny_pure h))
theorem ba_payload {Q : Array UInt8 → Shared → Prop} (ho : s.heap.get? S = some (baObj b)) (h : Q b s) : wpAny M A (Builtin.Bytes.payload (.ref S)) Q E s := by
  unfold Builtin.Bytes.payload Builtin.Bytes.payload?
  refine wpAny_bind (wpAny_bind (wpAny_load ho ?_))
  exact wpAny_pure (wpAny_pure h)
theorem ba_buffer {id : String} {full : Bool} {Q : Option (Array UInt8) → Shared → Prop} (ho : s.heap.get? S = some (baObj b)) (h : Q (some b) s) : wpAny M A (Builtin.Bytes.buffer? id (.ref S) full) Q E s := by
  unfold Builtin.Bytes.buffer?
  refine wpAny_bind (wpAny_specialOf (ba_type ho) Ba.look_buffer ?_)
  refine wpAny_bind (ba_own ho Ba.look_buffer (by decide +kernel) (by decide +kernel) ?_)
  show wpAny M A (specialOf (.ref S) (Str.ofString "__buffer__") >>= _) _ E s
  refine wpAny_bind (wpAny_specialOf (ba_type ho) Ba.look_buffer ?_)
  show wpAny M A (Builtin.Bytes.ownRelease (.ref S) >>= _) _ E s
  refine wpAny_bind (ba_release ho ?_)
  show wpAny M A (Builtin.Bytes.payload (.ref S) >>= _) _ E s
  exact wpAny_bind (ba_payload ho (wpAny_pure h))
theorem ba_write {f : Array UInt8 → Array UInt8} {Q : Unit → Shared → Prop} (ho : s.heap.get? S = some (baObj b)) (hz : (f b).size ≤ sizeLine)
    (h : ∀ h', Heap.SameBut S s.heap h' → h'.get? S = some (baObj (f b)) → Q () { s with heap := h' }) : wpAny M A (Builtin.Bytes.write (.ref S) f) Q E s := by
  show wpAny M A (updateBytearray S f) Q E s
  unfold updateBytearray
  refine wpAny_bind (wpAny_load ho ?_)
  show wpAny M A (update S (Obj.mapBytearray f) >>= fun _ => lookBehind S) Q E s
  refine wpAny_bind (wpAny_update ho ?_)
  have hS : (s.heap.update S (Obj.mapBytearray f)).get? S = some (baObj (f b)) := Heap.get?_update_self (Obj.mapBytearray f) ho rfl
  refine wpAny_lookBehind hS ?_ (h _ (Heap.SameBut.update ..) hS)
  show (if (f b).size > sizeLine then some "bytearray:memory" else none) = none
  rw [if_neg (Nat.not_lt.mpr hz)]
end
section
variable {prog : Program} {w : World} {A : Around} {E : Value → Shared → Prop} {s : Shared} {S : Addr} {b : Array UInt8}
theorem clean_not {id : String} {args : Args} (hc : CleanC (.builtin id args)) : Builtin.Bytes.decodersThatHold.contains id = false ∧ id ≠ "bytearray.__contains__" ∧ id ≠ "bytearray.__mod__" ∧ id ≠ "bytearray.__rmod__" ∧ id ≠ "_struct.pack_into.held" ∧ id ≠ "bytearray.find.held" := by
  have hd := hc id args rfl
  have no : ∀ n, n ∈ dirtyIds → id ≠ n := by
    rintro n hn rfl
    rw [List.contains_iff_mem.mpr hn] at hd; cases hd
  refine ⟨?_, no _ ?_, no _ ?_, no _ ?_, no _ ?_, no _ ?_⟩
  · cases q : Builtin.Bytes.decodersThatHold.contains id with
    | false => rfl
    | true => exact absurd rfl (no id (List.mem_append_left _ (List.contains_iff_mem.mp q)))
  all_goals exact List.mem_append_right _ (by simp)
theorem ba_exported {Q : Bool → Shared → Prop} (h : Q false s) : wpC (model prog w) A (Builtin.Bytes.exported (.ref S)) Q s := by
  unfold Builtin.Bytes.exported
  refine wpC_bind (wpC_stack fun st hst => wpC_pure ?_)
  have key : ∀ f : Code × Pos → Bool, (∀ x ∈ st, f x = false) → Q (st.any f) s := fun f hf => by
    rw [List.any_eq_false.mpr fun x hx => by rw [hf x hx]; exact Bool.false_ne_true]
    exact h
  refine key _ ?_
  rintro ⟨c, p⟩ hx
  have hc := hst _ hx
  cases c with
  | builtin id args =>
    obtain ⟨h0, h1, h2, h3, h4, h5⟩ := clean_not hc
    split <;> simp_all
  | _ => rfl
end
end Mine

-- part Ba3
namespace Mine
theorem Ba.args_init (a b : Value) : argsOk "bytearray.__init__" ⟨[a, b], []⟩ := by unfold argsOk; kernel_rfl
theorem wpC_ite_n {α : Type} {M : Model} {A : Around} {s : Shared} {c : Prop} [Decidable c] {a b : Sem α} {Q : α → Shared → Prop} (hc : ¬ c) (h : wpC M A b Q s) : wpC M A (if c then a else b) Q s := by rw [if_neg hc]; exact h
theorem wpC_ite_y {α : Type} {M : Model} {A : Around} {s : Shared} {c : Prop} [Decidable c] {a b : Sem α} {Q : α → Shared → Prop} (hc : c) (h : wpC M A a Q s) : wpC M A (if c then a else b) Q s := by rw [if_pos hc]; exact h
section
variable {prog : Program} {w : World} {A : Around} {E : Value → Shared → Prop} {s : Shared} {S : Addr} {b : Array UInt8}
theorem ba_look_index : typeLookup (.type "int") "__index__" = pure (some (.builtin "int.__index__")) := by rw [typeLookup_type, builtinLookup_eq_fast]; kernel_rfl
theorem ba_init {n : Int} {t : Tok} {Q : Fin → Shared → Prop} (ho : s.heap.get? S = some (baObj #[])) (h0 : 0 < n) (h1 : n ≤ 1000)
    (h : ∀ h' tk, Heap.SameBut S s.heap h' → h'.get? S = some (baObj (Array.replicate n.toNat 0)) → Q (.done (.ret .none)) { s with heap := h', toks := tk }) :
    wpC (model prog w) A (Builtin.«bytearray.__init__» ⟨[.ref S, .int n t], []⟩) Q s := by
  unfold Builtin.«bytearray.__init__»
  dsimp only
  refine wpC_bind (wpC_any (ba_release ho ?_))
  refine wpC_ite_f rfl ?_
  refine wpC_bind (wpC_of_eq (Ba.bind_init _) ?_)
  refine wpC_bind (wpC_of_eq (a := ()) rfl ?_)
  refine wpC_bind (wpC_of_eq (a := ()) rfl ?_)
  refine wpC_bind ?_
  show wpC _ _ (Builtin.Bytes.exported (.ref S) >>= _) _ _
  refine wpC_bind (ba_exported ?_)
  show wpC _ _ (Builtin.Bytes.exportsOf (.ref S) >>= _) _ _
  unfold Builtin.Bytes.exportsOf
  refine wpC_bind (wpC_bind (wpC_any (wpAny_load ho ?_)))
  refine wpC_pure (wpC_pure ?_)
  refine wpC_ite_f rfl ?_
  refine wpC_bind (wpC_any (ba_write ho (Nat.zero_le _) fun h' hs ho' => ?_))
  refine wpC_bind (wpC_of_eq (a := none) rfl ?_)
  refine wpC_ite_f rfl ?_
  refine wpC_ite_f (by simp only [Builtin.Bytes.fitsIndex, Bool.not_eq_false', Bool.and_eq_true, decide_eq_true_eq]; omega) ?_
  refine wpC_ite_n (by omega) ?_
  refine wpC_ite_f (by rw [beq_eq_false_iff_ne]; omega) ?_
  refine wpC_ite_f (by unfold Builtin.Bytes.tooLong; rw [sizeLine_eq]; exact decide_eq_false (by omega)) ?_
  refine wpC_bind (wpC_any (wpAny_rule ?_))
  refine wpC_ite_y (by omega) ?_
  refine wpC_bind (wpC_any (ba_write (s := { s with heap := h' }) ho' (by rw [Array.size_replicate, sizeLine_eq]; omega) fun h2 hs2 ho2 => ?_))
  exact wpC_pure (h h2 _ (hs.trans hs2) ho2)

/-- bytearray(n) -/
theorem bytearray_spec {n : Int} {t : Tok} {Q : Value → Shared → Prop} (h0 : 0 < n) (h1 : n ≤ 1000)
    (h : ∀ S h' tk, (∀ b o, s.heap.get? b = some o → h'.get? b = some o) → s.heap.get? S = none → (∀ b o, s.heap.get? b = some o → b < S) → h'.get? S = some (baObj (Array.replicate n.toNat 0)) → Q (.ref S) { s with heap := h', toks := tk }) :
    wpC (model prog w) A (call (.type "bytearray") [.int n t]) Q s := by
  refine call_bytearray (Ba.typeCall _) (fun obj => Ba.args_init obj _) (code_ba_new _ ⟨rfl, rfl⟩) ?_
  refine ba_init (Heap.get?_push_size _ rfl) h0 h1 fun h' tk hs ho => ⟨rfl, ?_⟩
  have fresh : s.heap.get? s.heap.objs.size = none := Heap.get?_none_of_le (Nat.le_refl _)
  refine h s.heap.objs.size h' tk (fun b o e => ?_) fresh (fun b o e => Heap.lt_size e) ho
  exact (hs.2 b (Nat.ne_of_lt (Heap.lt_size e))).trans (Heap.get?_push_of_some _ e)
end
end Mine

-- part Ba4
namespace Mine
theorem Ba.args_set (a b c : Value) : argsOk "bytearray.__setitem__" ⟨[a, b, c], []⟩ := by unfold argsOk; kernel_rfl
theorem Ba.sub_self' : isSubtype (.type "bytes") (.type "bytes") = pure true := by rw [isSubtype_type]; kernel_rfl
section
variable {prog : Program} {w : World} {A : Around} {E : Value → Shared → Prop} {s : Shared} {S : Addr} {b : Array UInt8}
theorem ba_set {k v : Int} {t u : Tok} {Q : Unit → Shared → Prop} (ho : s.heap.get? S = some (baObj b)) (h0 : 0 ≤ k) (h1 : k < b.size) (hb : b.size ≤ 1000) (hv0 : 0 ≤ v) (hv1 : v < 256)
    (hQ : ∀ h', Heap.SameBut S s.heap h' → h'.get? S = some (baObj (b.setIfInBounds k.toNat v.toNat.toUInt8)) → Q () { s with heap := h' }) :
    wpAny (model prog w) A (setItem (.ref S) (.int k t) (.int v u)) Q E s := by
  have hT := ba_type ho
  unfold setItem
  try with_reducible refine wpAny_holding ?_
  first | refine wpAny_bind (wpAny_pure ?_) | skip
  refine wpAny_bind (wpAny_sequenceKey hT (by decide) ?_)
  refine wpAny_bind (wpAny_callSpecial?_slot (name := Str.ofString "__setitem__") hT Ba.slot_set
    (wpAny_call_entry Ba.slot_set hT Ba.entry_set ?_ (Ba.args_set _ _ _)))
  unfold Builtin.«bytearray.__setitem__»
  dsimp only
  have hs : seqIndex? k b.size = some k.toNat := by
    unfold seqIndex?
    simp only []
    split <;> simp_all <;> omega
  refine bm_if_false rfl ?_
  refine wpAny_bind ?_
  unfold Builtin.Bytes.subscript?
  refine wpAny_bind (wpAny_specialOf (T := "int") (typeIs_int s k t) int_index ?_)
  show wpAny _ _ (asIndex (.int k t) >>= _) _ E s
  refine wpAny_bind (wpAny_of_eq (a := k) rfl ?_)
  refine bm_if_false (by simp only [Builtin.Bytes.fitsIndex, Bool.not_eq_false', Bool.and_eq_true, decide_eq_true_eq]; omega) ?_
  refine wpAny_pure ?_
  refine wpAny_bind ?_
  unfold Builtin.Bytes.byteValue
  refine wpAny_bind (wpAny_of_eq (a := v) rfl ?_)
  refine bm_if_false (by simp only [Bool.or_eq_false_iff, decide_eq_false_iff_not]; omega) ?_
  refine wpAny_pure ?_
  refine wpAny_bind (ba_payload ho ?_)
  rw [hs]
  dsimp only
  refine wpAny_bind (ba_write ho (by rw [Array.size_setIfInBounds, sizeLine_eq]; omega) fun h' hsb ho' => ?_)
  exact wpAny_pure ⟨_, rfl, wpAny_pure (hQ h' hsb ho')⟩

theorem ba_bytes_new {Q : Value → Shared → Prop} (ho : s.heap.get? S = some (baObj b)) (hz : b.size ≤ 1000)
    (hQ : ∀ t k, Q (.bytes b t) { s with toks := k }) :
    codeAny (model prog w) A (.call (.builtin "bytes.__new__") ⟨[.type "bytes", .ref S], []⟩) (wants Q E) s := by
  refine codeAny_of_tree ?_
  show wpAny _ A.in1 (do checkBuiltinCall "bytes.__new__" ⟨[.type "bytes", .ref S], []⟩; again (.builtin "bytes.__new__" ⟨[.type "bytes", .ref S], []⟩)) _ _ s
  refine wpAny_bind (wpAny_of_eq (F.bm_newCall _) (wpAny_pure ⟨plainId_quiet F.bm_plain _, codeAny_builtin F.bm_entry ?_⟩))
  rw [Around.under_plainId F.bm_plain _]
  have hT := ba_type ho
  unfold Builtin.«bytes.__new__»
  refine wpAny_bind (wpAny_of_eq (a := true) rfl ?_)
  refine bm_if_false rfl ?_
  refine wpAny_bind (wpAny_of_eq F.bm_sub ?_)
  refine bm_if_false rfl ?_
  refine wpAny_bind (wpAny_of_eq (F.bm_bind _) ?_)
  refine wpAny_bind (wpAny_of_eq (a := ()) rfl ?_)
  refine wpAny_bind (wpAny_of_eq (a := ()) rfl ?_)
  refine bm_if_false rfl ?_
  refine wpAny_bind (wpAny_specialOf hT Ba.none_bytes ?_)
  refine wpAny_bind (wpAny_bind ?_)
  show wpAny _ _ (load S >>= _) _ _ _
  refine wpAny_bind (wpAny_load ho ?_)
  refine wpAny_pure (wpAny_pure ?_)
  refine bm_if_false rfl ?_
  refine wpAny_bind (wpAny_specialOf hT Ba.none_index ?_)
  refine bm_if_true rfl ?_
  first
    | show wpAny _ _ (Builtin.Bytes.buffer? "bytes.__new__" (.ref S) true >>= _) _ _ _
    | (refine wpAny_bind ?_; show wpAny _ _ (Builtin.Bytes.buffer? "bytes.__new__" (.ref S) true >>= _) _ _ _)
  refine wpAny_bind (ba_buffer ho ?_)
  refine wpAny_bind (wpAny_rule ?_)
  refine wpAny_bind (wpAny_mkBytes ?_ (by rw [sizeLine_eq]; omega))
  show wpAny _ _ (if (Value.type "bytes" == Value.type "bytes") = true then _ else _) _ _ _
  refine bm_if_true (by decide) ?_
  first
    | exact wpAny_pure (wpAny_pure (hQ _ _))
    | exact wpAny_pure (hQ _ _)
    | exact wpAny_bind (wpAny_pure (wpAny_pure (hQ _ _)))

/-- bytes(a bytearray) -/
theorem ba_bytes {Q : Value → Shared → Prop} (ho : s.heap.get? S = some (baObj b)) (hz : b.size ≤ 1000)
    (hQ : ∀ t k, Q (.bytes b t) { s with toks := k }) : wpAny (model prog w) A (call (.type "bytes") [.ref S]) Q E s := by
  refine callType_codes (Q₁ := fun obj s₁ => s₁.TypeIs obj "bytes" ∧ Q obj s₁) F.bm_called (F.bm_typeCall _) F.entry_object_init
    (ba_bytes_new ho hz fun t k => ⟨PySem.W.typeIs_bytes _ _ _, hQ t k⟩) fun obj s₁ h₁ => ?_
  exact ⟨h₁.1, F.args_object_init_2 obj _, object_init_meets F.bm_called.init.lookup F.bm_called.made (by decide) prog w A.in1 _ s₁ ⟨h₁.1, rfl, h₁.2⟩⟩
end
end Mine

-- part Loops
namespace Mine
section
variable {prog : Program} {w : World} {A : Around} {E : Value → Shared → Prop} {s : Shared} {env : Env} {h₀ : Heap} {x : Str} {body : List Stmt} {Q : Flow → Shared → Prop}
/-- a for over a range of any step, by what holds of the frame and of the ledger -/
theorem loop_range {r : Addr} {a₀ b₀ st : Int} {t₀ u₀ v₀ : Tok} {n : Nat} {m₀ : Str → Option Value} {news : List (Addr × Obj)} (J : Nat → (Str → Option Value) → List (Addr × Obj) → Prop)
    (hh : A.handled = none) (hr : IsRange s.heap r a₀ b₀ st t₀ u₀ v₀) (hsmall : Builtin.Range.small a₀ b₀ st = true) (hn : Builtin.Range.rangeSize a₀ b₀ st = (n : Int)) (F : Fr h₀ env.locals s.heap m₀) (N : News h₀ env.locals s.heap news) (hj : J 0 m₀ news)
    (turn : ∀ i t m₁ news₁ h tk own, i < n → OwnOff own (news.map (·.1)) → J i m₁ news₁ → Fr h₀ env.locals h (fun y => if y = x then some (.int (a₀ + (i : Int) * st) t) else m₁ y) → News h₀ env.locals h (news₁ ++ own) →
      wpAny (model prog w) A (execs body env) (InvPostN h₀ env.locals (J (i + 1)) own (news.map (·.1)) { s with heap := h, toks := tk } Q) E { s with heap := h, toks := tk })
    (done : ∀ m₁ news₁ h tk, J n m₁ news₁ → Fr h₀ env.locals h m₁ → News h₀ env.locals h news₁ → Q .next { s with heap := h, toks := tk }) :
    wpAny (model prog w) A (pyIter (.ref r)) (fun it s₂ => LoopAtV prog w A h₀ env x body Q E it s₂) E s := by
  refine wpAny_pyIter_range hr hsmall ?_
  have W : Walks prog w A s.heap.objs.size [s.heap.objs.size] [s.heap.objs.size] n (fun i v => i < n ∧ ∃ t, v = .int (a₀ + i * st) t)
      (fun i h => IsRangeIter h s.heap.objs.size (a₀ + (i : Nat) * st) ((n : Int) - (i : Nat)) st) := (Walks.range hh _ a₀ st n).bound
  have apart : ∀ p ∈ news, p.1 ≠ s.heap.objs.size := fun p hp e => absurd (Heap.lt_size (N p hp).1) (e ▸ Nat.lt_irrefl _)
  refine loop_invN J W ?_ ?_ ?_ ?_ (by show IsRangeIter _ _ _ _ _; rw [hn]; simpa using Heap.get?_push_size _ rfl) (F.push _) (fun p hp => ⟨Heap.get?_push_of_some _ (N p hp).1, (N p hp).2⟩) hj ?_ ?_
  · exact fun hm => absurd F.ns.lt ((List.mem_singleton.mp hm) ▸ Nat.lt_irrefl _)
  · exact fun b hb => by rw [List.mem_singleton.mp hb]; exact next_is_new F
  · exact fun p hp hI => apart p hp (List.mem_singleton.mp hI)
  · exact fun p hp hI => apart p hp (List.mem_singleton.mp hI)
  · rintro i v m₁ nx h tk own hi ⟨_, t, rfl⟩ _ hoff hJ F₁ N₁
    exact turn i t m₁ nx h tk own hi hoff hJ F₁ N₁
  · exact done
theorem fr_eq {L : Addr} {h : Heap} {m m' : Str → Option Value} (F : Fr h₀ L h m) (e : m = m') : Fr h₀ L h m' := e ▸ F
theorem fr_same {L : Addr} {h : Heap} {m₁ m₀ : Str → Option Value} {v : Option Value} (e : ∀ z, z ≠ x → m₁ z = m₀ z) (F : Fr h₀ L h (fun y => if y = x then v else m₁ y)) : Fr h₀ L h (fun y => if y = x then v else m₀ y) :=
  fr_eq F (funext fun y => by by_cases h : y = x; rw [if_pos h, if_pos h]; rw [if_neg h, if_neg h, e y h])
end
section
variable {prog : Program} {w : World} {A : Around} {E : Value → Shared → Prop} {s : Shared}
theorem byte_of {ns : List Int} (hb : ∀ n ∈ ns, 0 ≤ n ∧ n < 256) {i : Nat} (hi : i < ns.length) : ((((ns.map fun n : Int => n.toNat.toUInt8).getD i 0).toNat : Nat) : Int) = ns.getD i 0 := by
  have e1 : (ns.map fun n : Int => n.toNat.toUInt8).getD i 0 = (ns[i]).toNat.toUInt8 := by simp [List.getD, List.getElem?_eq_getElem hi]
  have e2 : ns.getD i 0 = ns[i] := by simp [List.getD, List.getElem?_eq_getElem hi]
  rw [e1, e2]
  obtain ⟨h0, h1⟩ := hb _ (List.getElem_mem hi)
  exact byte_back h0 h1
theorem by_item {ns : List Int} {i : Int} {t ui : Tok} {value slice : Expr} {Q : Value → Shared → Prop} (hb : ∀ n ∈ ns, 0 ≤ n ∧ n < 256) (hl : ns.length ≤ 1000) (h0 : 0 ≤ i) (h1 : i < (ns.length : Int))
    (h : Q (.int (ns.getD i.toNat 0) s.toks) { s with toks := s.toks + 1 })
    (hs : subscripted slice false (.bytes (byteArr ns) t) (.int i ui) = operate [.bytes (byteArr ns) t, .int i ui] (getItem (.bytes (byteArr ns) t) (.int i ui)) := by with_unfolding_all rfl)
    (ht : ∀ r, letTemporaryGo value (.bytes (byteArr ns) t) r = pure () := by intro _; with_unfolding_all rfl) :
    wpAny (model prog w) A (subscriptTail value slice (.bytes (byteArr ns) t) (.int i ui)) Q E s :=
  bytes_item_K (x := ns.map fun n : Int => n.toNat.toUInt8) (by rw [List.length_map]; omega) h0 (by rw [List.length_map]; exact h1) (byte_of hb (by omega)) h hs ht
end
section
variable {M : Model} {A : Around} {s : Shared} {env : Env}
theorem wpC_callE {P : Heap → Prop} {pos : Pos} {f : Value} {e : PySem.Expr} {rest : List PySem.Expr} {Q : Value → Shared → Prop} (hk : ∀ h, P h → ∃ k, (k = Keeper.frame ∨ k = Keeper.machine ∨ k = Keeper.boundFrame) ∧ Looks M h (keeperOf f) k)
    (h : wpAny M A (spliced (backTo pos (starEach (e :: rest) env))) (fun vs s₁ => P s₁.heap ∧ wpC M A (call f vs) Q s₁) (fun _ _ => False) s)
    (he : starEach (e :: rest) env = (false, eval e env) :: starEach rest env := by rfl) (hplain : (backTo pos (starEach rest env)).any (·.1) = false := by rfl) :
    wpC M A (callWith pos f [] (backTo pos (starEach (e :: rest) env)) []) Q s := by
  rw [he] at h ⊢
  exact wpC_callWith (by show ((false || (backTo pos (starEach rest env)).any (·.1)) || false) = false; rw [hplain]; rfl) hk (evalArgs_plain h)
theorem keeps_type {T : String} (h : Heap) (_ : True) : ∃ k, (k = Keeper.frame ∨ k = Keeper.machine ∨ k = Keeper.boundFrame) ∧ Looks M h (keeperOf (.type T)) k := ⟨.machine, .inr (.inl rfl), Looks.of_pure rfl⟩
end
section
variable {h₀ h h' : Heap} {L S : Addr} {o o' : Obj} {m : Str → Option Value} {rest : List (Addr × Obj)}
theorem news_put (N : News h₀ L h ((S, o) :: rest)) (hs : Heap.SameBut S h h') (ho : h'.get? S = some o') (hne : ∀ p ∈ rest, p.1 ≠ S) : News h₀ L h' ((S, o') :: rest) := fun p hp => by
  rcases List.mem_cons.mp hp with rfl | hp
  · exact ⟨ho, (N _ (.head _)).2⟩
  · exact ⟨(hs.2 _ (hne p hp)).trans (N p (.tail _ hp)).1, (N p (.tail _ hp)).2⟩
theorem fr_put (F : Fr h₀ L h m) (N : News h₀ L h ((S, o) :: rest)) (hs : Heap.SameBut S h h') : Fr h₀ L h' m := F.change hs (N _ (.head _)).2.1 (N _ (.head _)).2.2
end
end Mine

-- part PlainB
namespace Mine
/-- the bytearray when i of the items are laid, from behind -/
def pl (ns : List Int) (i : Nat) : List Int := List.replicate (ns.length - i) 0 ++ (ns.take i).reverse
theorem pl_len {ns : List Int} {i : Nat} (h : i ≤ ns.length) : (pl ns i).length = ns.length := by simp [pl]; omega
theorem pl_zero (ns : List Int) : byteArr (pl ns 0) = Array.replicate ns.length 0 := by
  simp [pl, byteArr]
theorem pl_last (ns : List Int) : pl ns ns.length = ns.reverse := by simp [pl]
theorem pl_set {ns : List Int} {i : Nat} (h : i < ns.length) : (byteArr (pl ns i)).setIfInBounds (ns.length - 1 - i) ((ns.getD i 0).toNat.toUInt8) = byteArr (pl ns (i + 1)) := by
  have e1 : ns.getD i 0 = ns[i] := by simp [List.getD, List.getElem?_eq_getElem h]
  obtain ⟨k, hk⟩ : ∃ k, ns.length - i = k + 1 := ⟨ns.length - i - 1, by omega⟩
  have hk2 : ns.length - (i + 1) = k := by omega
  have hk3 : ns.length - 1 - i = k := by omega
  have e2 : (ns.take (i + 1)).reverse = ns[i] :: (ns.take i).reverse := by
    rw [List.take_add_one, List.getElem?_eq_getElem h]
    simp
  unfold byteArr pl
  rw [hk, hk2, hk3, e1, e2, List.replicate_succ', List.append_assoc, List.setIfInBounds_toArray]
  congr 1
  simp only [List.map_append, List.map_cons, List.map_replicate, List.singleton_append]
  have hl : (List.replicate k (0 : Int).toNat.toUInt8).length = k := List.length_replicate
  rw [List.set_append_right _ _ (by rw [hl]; exact Nat.le_refl _), hl, Nat.sub_self, List.set_cons_zero]
end Mine

-- part LoopT
namespace Mine
section
variable {prog : Program} {w : World} {A : Around} {E : Value → Shared → Prop} {s : Shared} {env : Env} {h₀ : Heap} {x : Str} {body : List Stmt} {Q : Flow → Shared → Prop}
/-- a loop that only goes on, with the tokens' floor -/
def LoopAtT (prog : Program) (w : World) (A : Around) (h₀ : Heap) (env : Env) (x : Str) (body : List Stmt) (Q : Flow → Shared → Prop) (E : Value → Shared → Prop) (it : Value) (s₂ : Shared) : Prop :=
  ∃ (I : Addr) (fp wr : List Addr) (n : Nat) (P : Nat → Value → Prop) (St : Nat → Heap → Prop) (m : Str → Option Value) (news : List (Addr × Obj)) (J : Nat → (Str → Option Value) → List (Addr × Obj) → Prop),
    it = .ref I ∧ Walks prog w A I fp wr n P St ∧ env.locals ∉ fp ∧ (∀ b ∈ wr, h₀.get? b = none) ∧ (∀ p ∈ news, p.1 ∉ fp) ∧ St 0 s₂.heap ∧ Fr h₀ env.locals s₂.heap m ∧ News h₀ env.locals s₂.heap news ∧ J 0 m news ∧
    (∀ i v m₁ nx h tk own, s₂.toks ≤ tk → i < n → P i v → OwnOff own (news.map (·.1)) → J i m₁ nx → Fr h₀ env.locals h (fun y => if y = x then some v else m₁ y) → News h₀ env.locals h (nx ++ own) →
      wpAny (model prog w) A (execs body env) (InvPostN h₀ env.locals (J (i + 1)) own (news.map (·.1)) { s₂ with heap := h, toks := tk } fun _ _ => False) E { s₂ with heap := h, toks := tk }) ∧
    ∀ h' tk m' nx, s₂.toks ≤ tk → Fr h₀ env.locals h' m' → News h₀ env.locals h' nx → J n m' nx → Q .next { s₂ with heap := h', toks := tk }

theorem For_T {px pos : Pos} {iter : Expr} (hx : env.kindOf x = some .local)
    (hp : (env.scope.kind == .class || (env.scope.kind == .module && env.locals != env.globals)) = false)
    (h : wpAny (model prog w) A (eval iter env) (fun xv s₁ => wpAny (model prog w) A (pyIter xv) (fun it s₂ => LoopAtT prog w A h₀ env x body Q E it s₂) E s₁) E s)
    (hs : ∀ x, foldedSetIterable iter env x = pure x := by intro _; rfl)
    (hE : PassesOwn (model prog w) A env E := by passes_own) :
    wpAny (model prog w) A (exec (.For (.Name x px) iter body [] pos) env) Q E s := by
  refine wpAny_For (wpAny_mono h (fun xv s₁ h₁ => wpAny_mono h₁ (fun it s₂ h₂ => ?_) fun _ _ e => e) fun _ _ e => e) hs
  obtain ⟨I, fp, wr, n, P, St, m, news, J, rfl, W, hLf, hwr, hnf, hst, F, N, h0, step, hQ⟩ := h₂
  have hLw : env.locals ∉ wr := fun h => hLf (W.sub _ h)
  have old : ∀ b o, h₀.get? b = some o → b ∉ wr := fun b o e hb => by rw [hwr b hb] at e; cases e
  refine codeAny_forLoop
    (fun k s' => ∃ h' tk m' nx i, s' = { s₂ with heap := h', toks := tk } ∧ s₂.toks ≤ tk ∧ St i h' ∧ Fr h₀ env.locals h' m' ∧ News h₀ env.locals h' nx ∧ nx.map (·.1) = news.map (·.1) ∧ J i m' nx ∧ i ≤ n ∧ k = n + 1 - i) ?_ (n + 1)
    ⟨s₂.heap, s₂.toks, m, news, 0, rfl, Nat.le_refl _, hst, F, N, rfl, h0, Nat.zero_le _, rfl⟩
  rintro k s' ⟨h', tk, m', nx, i, rfl, htk, hst', F', N', hadr, hJ, hi, rfl⟩
  have offN : ∀ p ∈ nx, p.1 ∉ fp := fun p hp hf => by
    have h1 : p.1 ∈ nx.map (·.1) := List.mem_map.mpr ⟨p, hp, rfl⟩
    rw [hadr] at h1
    obtain ⟨q, hq1, hq2⟩ := List.mem_map.mp h1
    exact hnf q hq1 (by rw [hq2]; exact hf)
  have next : ∀ h₁ : Heap, (∀ b o, b ∉ wr → h'.get? b = some o → h₁.get? b = some o) → Fr h₀ env.locals h₁ m' ∧ News h₀ env.locals h₁ nx := fun h₁ hk₁ =>
    ⟨⟨F'.ns.at' fun o e => hk₁ _ o hLw e, fun b o e => hk₁ b o (old b o e) (F'.keep b o e), F'.above⟩, fun p hp => ⟨hk₁ _ _ (fun q => offN p hp (W.sub _ q)) (N' p hp).1, (N' p hp).2⟩⟩
  by_cases hlt : i < n
  · refine wpAny_with_toks (n := tk) (Nat.le_refl _) (W.item i _ _ _ hlt hst' fun v h₁ tk₁ hP hst₁ hk₁ ht₁ => ?_)
    obtain ⟨F₁, N₁⟩ := next h₁ hk₁
    refine wpAny_assign_Name (wpAny_storeName_local hx F₁.ns (fun h₂ hn₂ hs₂ => ?_) hp)
    have F₂ := F₁.set hn₂ hs₂
    have Nown : News h₀ env.locals h₂ (ownOf h₀ fp h₂) := news_ownOf hLf
    have hst₂ : St (i + 1) h₂ := W.frame _ _ _ hst₁ fun b hb o e => (hs₂.2 b fun q => hLf (q ▸ hb)).trans e
    have ht₂ : s₂.toks ≤ tk₁ + 1 := Nat.le_trans htk (Nat.le_trans ht₁ (Nat.le_succ _))
    have off : OwnOff (ownOf h₀ fp h₂) (news.map (·.1)) := fun p hp b hb e => by
      obtain ⟨q, hq, rfl⟩ := List.mem_map.mp hb
      exact hnf q hq (e ▸ ownOf_sub p hp)
    have N₂ : News h₀ env.locals h₂ (nx ++ ownOf h₀ fp h₂) := (N₁.set hs₂).append Nown
    change wpAny (model prog w) A (execs body env) _ _ { s₂ with heap := h₂, toks := tk₁ + 1 }
    refine wpAny_with_toks (n := tk₁ + 1) (Nat.le_refl _) (wpAny_mono (wpAny_passesOwn hE (step i v m' nx h₂ (tk₁ + 1) (ownOf h₀ fp h₂) ht₂ hlt hP off hJ F₂ N₂)) (fun f s₃ h₃ ht₃ => ?_) fun _ _ e _ => e)
    have fin : InvEndN h₀ env.locals (J (i + 1)) (ownOf h₀ fp h₂) (news.map (·.1)) { s₂ with heap := h₂, toks := tk₁ + 1 } s₃ →
        ∃ k', k' < n + 1 - i ∧ ∃ h' tk m' nx i, s₃ = { s₂ with heap := h', toks := tk } ∧ s₂.toks ≤ tk ∧ St i h' ∧ Fr h₀ env.locals h' m' ∧ News h₀ env.locals h' nx ∧ nx.map (·.1) = news.map (·.1) ∧ J i m' nx ∧ i ≤ n ∧ k' = n + 1 - i := by
      rintro ⟨h₃', tk₃, m₃, news₃, nx₃, rfl, F₃, N₃, hn₃, ho₃, ha₃, hJ₃⟩
      refine ⟨n + 1 - (i + 1), by omega, h₃', tk₃, m₃, nx₃, i + 1, rfl, Nat.le_trans ht₂ ht₃, ?_, F₃, fun p hp => N₃ p (hn₃ p hp), ha₃, hJ₃, hlt, rfl⟩
      refine W.frame _ _ _ hst₂ fun b hb o e => ?_
      cases hn : h₀.get? b with
      | some o₀ =>
        have : o₀ = o := by have := F₂.keep b o₀ hn; rw [e] at this; exact (Option.some.inj this).symm
        exact this ▸ F₃.keep b o₀ hn
      | none => exact (N₃ _ (ho₃ _ (mem_ownOf hb hn e))).1
    cases f with
    | ret v => exact h₃.elim
    | brk => exact h₃.elim
    | cont => exact fin h₃
    | next => exact fin h₃
  · have hin : i = n := by omega
    subst hin
    refine wpAny_with_toks (n := tk) (Nat.le_refl _) (W.done _ _ _ hst' fun h₁ tk₁ hk₁ ht₁ => wpAny_execs_nil ?_)
    obtain ⟨F₁, N₁⟩ := next h₁ hk₁
    exact hQ h₁ tk₁ m' nx (Nat.le_trans htk ht₁) F₁ N₁ hJ

theorem kst_rangeT {σ : Type} {r : Addr} {a₀ b₀ : Int} {t₀ u₀ v₀ : Tok} {n : Nat} {m₀ : Str → Option Value} (Led : σ → List (Addr × Obj)) (ps : σ → List (Str × Value)) (Facts : σ → Prop) (stored : List Str) (P : List Int → σ → Prop) (c₀ : σ)
    (hh : A.handled = none) (hr : IsRange s.heap r a₀ b₀ 1 t₀ u₀ v₀) (hsmall : Builtin.Range.small a₀ b₀ 1 = true) (hn : Builtin.Range.rangeSize a₀ b₀ 1 = (n : Int)) (F : Fr h₀ env.locals s.heap m₀) (N : News h₀ env.locals s.heap (Led c₀)) (hf : Facts c₀) (hk : ∀ p ∈ ps c₀, m₀ p.1 = some p.2) (hp : P [] c₀)
    (turn : ∀ (c : σ) (pre : List Int) (k : Int) t (u : Str → Option Value) h tk own, s.toks ≤ tk → k = a₀ + (pre.length : Int) → pre.length < n → OwnOff own ((Led c₀).map (·.1)) → Facts c → P pre c →
      Fr h₀ env.locals h (fun y => if y = x then some (.int k t) else kstB (fun z => if stored.contains z then u z else m₀ z) (ps c) y) → News h₀ env.locals h (Led c ++ own) →
      wpAny (model prog w) A (execs body env) (InvPostN h₀ env.locals (KstS Led ps Facts x stored m₀ P (pre ++ [k])) own ((Led c₀).map (·.1)) { s with heap := h, toks := tk } fun _ _ => False) E { s with heap := h, toks := tk })
    (done : ∀ (c : σ) (u : Str → Option Value) h tk, s.toks ≤ tk → Facts c → P (rangeKs a₀ n) c → Fr h₀ env.locals h (fun y => if y = x then u y else kstB (fun z => if stored.contains z then u z else m₀ z) (ps c) y) → News h₀ env.locals h (Led c) → Q .next { s with heap := h, toks := tk }) :
    wpAny (model prog w) A (pyIter (.ref r)) (fun it s₂ => LoopAtT prog w A h₀ env x body Q E it s₂) E s := by
  refine wpAny_pyIter_range hr hsmall ?_
  have W : Walks prog w A s.heap.objs.size [s.heap.objs.size] [s.heap.objs.size] n (fun i v => i < n ∧ ∃ t, v = .int (a₀ + i * 1) t)
      (fun i h => IsRangeIter h s.heap.objs.size (a₀ + (i : Nat) * 1) ((n : Int) - (i : Nat)) 1) := (Walks.range hh _ a₀ 1 n).bound
  refine ⟨_, _, _, n, _, _, m₀, Led c₀, fun i m nx => KstS Led ps Facts x stored m₀ P ((rangeKs a₀ n).take i) m nx, rfl, W, ?_, ?_, ?_, ?_, F.push _, (fun p hp => ⟨Heap.get?_push_of_some _ (N p hp).1, (N p hp).2⟩), ⟨c₀, rfl, hf, hk, fun _ _ _ _ => rfl, by simpa using hp⟩, ?_, ?_⟩
  · intro hm
    exact absurd F.ns.lt ((List.mem_singleton.mp hm) ▸ Nat.lt_irrefl _)
  · intro b hb
    rw [List.mem_singleton.mp hb]
    exact next_is_new F
  · intro p hp hI
    exact absurd (Heap.lt_size (N p hp).1) ((List.mem_singleton.mp hI) ▸ Nat.lt_irrefl _)
  · show IsRangeIter _ _ _ _ _
    rw [hn]; simpa using Heap.get?_push_size _ rfl
  · rintro i v m₁ nx h tk own htk hi ⟨_, t, rfl⟩ hoff ⟨c, rfl, hf', h1, h2, hp'⟩ F₁ N₁
    have e1 : a₀ + (i : Int) * 1 = a₀ + (i : Int) := by omega
    rw [e1] at F₁
    have hk' : (rangeKs a₀ n)[i]? = some (a₀ + (i : Int)) := by simp [rangeKs, hi]
    have hs : (rangeKs a₀ n).take (i + 1) = (rangeKs a₀ n).take i ++ [a₀ + (i : Int)] := by simp [List.take_add_one, hk']
    have hlen : ((rangeKs a₀ n).take i).length = i := by rw [List.length_take, rangeKs_length]; omega
    show wpAny _ _ _ (InvPostN h₀ env.locals (KstS Led ps Facts x stored m₀ P ((rangeKs a₀ n).take (i + 1))) own _ _ _) _ _
    rw [hs]
    exact turn c _ _ t m₁ h tk own htk (by rw [hlen]) (by rw [hlen]; exact hi) hoff hf' hp' (kst_fr h1 h2 F₁) N₁
  · rintro h tk m₁ nx htk F₁ N₁ ⟨c, rfl, hf', h1, h2, hp'⟩
    rw [List.take_of_length_le (by rw [rangeKs_length]; exact Nat.le_refl _)] at hp'
    exact done c m₁ h tk htk hf' hp' (kst_frOut h1 h2 F₁) N₁
end
section
variable {M : Model} {A : Around} {E : Value → Shared → Prop} {s : Shared} {env : Env}
theorem wp_app {Γ : PySem.Ctx} (rest : List Stmt) {Q' : Flow → Pos → Shared → Prop} {E' : Value → Pos → Shared → Prop} : ∀ (l : List Stmt) (p : Pos) (s : Shared),
    Sem.wp M Γ (execs l env) (fun f p' s' => match f with | .next => Sem.wp M Γ (execs rest env) Q' E' p' s' | f => Q' f p' s') E' p s → Sem.wp M Γ (execs (l ++ rest) env) Q' E' p s
  | [], p, s, h => by
    have h1 : Sem.wp M Γ (pure Flow.next) _ E' p s := h
    rw [Sem.wp_pure'] at h1
    exact h1
  | a :: l, p, s, h => by
    rw [execs_cons, Sem.wp_bind'] at h
    rw [List.cons_append, execs_cons, Sem.wp_bind']
    refine Sem.wp_mono M Γ _ (fun f p' s' h' => ?_) (fun _ _ _ h' => h') _ _ h
    cases f with
    | next => exact wp_app rest l p' s' h'
    | _ => exact h'
/-- the last statement of a body, with the tokens' floor -/
theorem execs_lastT {T0 : Nat} {pre rest : List Stmt} {Q : Flow → Shared → Prop} (hT : T0 ≤ s.toks) (h : wpAny M A (execs pre env) (fun f s' => T0 ≤ s'.toks → match f with | .next => wpAny M A (execs rest env) Q E s' | f => Q f s') E s) :
    wpAny M A (execs (pre ++ rest) env) Q E s := fun Γ p hΓ => by
  have h1 := wpAny_with_toks hT (wpAny_mono h (fun _ _ x => x) fun _ _ e _ => e) Γ p hΓ
  refine wp_app rest pre p s (Sem.wp_mono M Γ _ (fun f p' s' h' => ?_) (fun _ _ _ h' => h') _ _ h1)
  cases f with
  | next => exact h' Γ p' hΓ
  | _ => exact h'
end
end Mine

-- part Run
namespace Mine
section
variable {prog : Program} {w : World} {A : Around} {E : Value → Shared → Prop} {s : Shared} {p : Program} {loose : List Str} {mean : ExcName → Option Value} {mg mb : Str → Option Value} {G : Heap}
local macro_rules | `(tactic| walk_at "call ref") => `(tactic| ((with_reducible show wpAny _ _ (PySem.call (Value.ref 70) _ _) _ _ _); with_unfolding_all (refine' and_spec ?D ?G ?R ?_; (case D => assumption); (case G => exact Fr.keep (by assumption)); (case R => exact Rm.less (Rm.deeper (by assumption) _) (by omega)); intro v' h' tk' x'; (have F' := fr_ext0 (by assumption) x'); (have N' := news_ext0 (by assumption) x'); k_sweep)))
local macro_rules | `(tactic| walk_at "call ref") => `(tactic| ((with_reducible show wpAny _ _ (PySem.call (Value.ref 91) _ _) _ _ _); with_unfolding_all (refine' or_spec ?D ?G ?R ?_; (case D => assumption); (case G => exact Fr.keep (by assumption)); (case R => exact Rm.less (Rm.deeper (by assumption) _) (by omega)); intro v' h' tk' x'; (have F' := fr_ext0 (by assumption) x'); (have N' := news_ext0 (by assumption) x'); k_sweep)))
local macro_rules | `(tactic| walk_at "call ref") => `(tactic| ((with_reducible show wpAny _ _ (PySem.call (Value.ref 105) _ _) _ _ _); with_unfolding_all (refine' xor_spec ?D ?G ?R ?_; (case D => assumption); (case G => exact Fr.keep (by assumption)); (case R => exact Rm.less (Rm.deeper (by assumption) _) (by omega)); intro v' h' tk' x'; (have F' := fr_ext0 (by assumption) x'); (have N' := news_ext0 (by assumption) x'); k_sweep)))
local macro_rules | `(tactic| walk_at "call ref") => `(tactic| ((with_reducible show wpAny _ _ (PySem.call (Value.ref 98) _ _) _ _ _); with_unfolding_all (refine' rshift_spec ?D ?G ?R ?hb ?_; (case D => assumption); (case G => exact Fr.keep (by assumption)); (case R => exact Rm.less (Rm.deeper (by assumption) _) (by omega)); (case hb => first | decide | omega | assumption); intro v' h' tk' x'; (have F' := fr_ext0 (by assumption) x'); (have N' := news_ext0 (by assumption) x'); k_sweep)))
local macro_rules | `(tactic| walk_at "call ref") => `(tactic| ((with_reducible show wpAny _ _ (PySem.call (Value.ref 77) _ _) _ _ _); with_unfolding_all (refine' lshift_spec ?D ?G ?R ?hb ?hb2 ?ha ?_; (case D => assumption); (case G => exact Fr.keep (by assumption)); (case R => exact Rm.less (Rm.deeper (by assumption) _) (by omega)); (case hb => first | decide | omega | assumption); (case hb2 => first | decide | omega | assumption); (case ha => first | decide | omega | assumption | exact Mine.bit_small _); intro v' h' tk' x'; (have F' := fr_ext0 (by assumption) x'); (have N' := news_ext0 (by assumption) x'); k_sweep)))
local macro_rules | `(tactic| walk_at "call ref") => `(tactic| ((with_reducible show wpAny _ _ (PySem.call (Value.ref 84) _ _) _ _ _); with_unfolding_all (refine' mul_spec ?D ?G ?R ?hm ?_; (case D => assumption); (case G => exact Fr.keep (by assumption)); (case R => exact Rm.less (Rm.deeper (by assumption) _) (by omega)); (case hm => assumption); intro v' h' tk' x'; (have F' := fr_ext0 (by assumption) x'); (have N' := news_ext0 (by assumption) x'); k_sweep)))
/-- or_ with its token -/
theorem or_specT {a b : Int} {t u : Tok} {Q : Value → Shared → Prop} (D : Gd w p loose mean mg mb G) (hG : ∀ b o, G.get? b = some o → s.heap.get? b = some o) (r : Rm 1 A) 
    (ret : ∀ v h' tk, s.toks ≤ v → Ext [] s.heap h' → Q (.int (Builtin.bitOr a b) v) { s with heap := h', toks := tk }) : wpAny (model prog w) A (call (.ref 91) [.int a t, .int b u]) Q E s := by
  obtain ⟨hd, dp, fr, gd, un⟩ := A
  obtain rfl : hd = none := r.hh
  have rd := r.dp
  have ru := r.un
  dsimp only at rd ru
  refine' callK (binds := [(Str.ofString "a", .int a t), (Str.ofString "b", .int b u)]) [] D hG (by simp) r.room ?ko ?kc (BindsTo.of_eq ?kb) ?kloc ?_ ?kcell ?c2 ?c3 ?c4
  case ko => k_is
  case kc => k_is
  case kb => rfl
  case kloc => exact locs rfl
  case kcell => decide
  case c2 => rfl
  case c3 => rfl
  case c4 => rfl
  intro g L' h₁ Dg lt xt wt F old X T
  simp only [List.reverse_cons, List.reverse_nil, List.nil_append, List.cons_append, List.length_cons, List.length_nil] at F ⊢
  have N : News g L' h₁ [] := News.nil
  try dsimp only
  change wpAny _ _ _ _ _ _
  k_fold

  refine wpAny_execs_cons ?_
  refine wpAny_Return_some ?_
  refine wpAny_BinOp ?_
  walk1
  walk1
  walk1
  exact ret _ _ _ (Nat.le_add_right _ _) (xt.1.trans fun b o _ e => F.keep b o e)
def TokOk (T0 : Nat) (b : Int) (u : Tok) (x : Value) : Prop := ∃ v t, x = .int v t ∧ ((v = b ∧ t = u) ∨ T0 ≤ t)
theorem none_of {h h' : Heap} {b : Addr} (x : Ext [] h h') (e : h'.get? b = none) : h.get? b = none := by
  cases q : h.get? b with
  | none => rfl
  | some o => rw [x b o (by simp) q] at e; cases e
structure RunSt where
  sv : List Value
  se : Nat
  rv : List Value
  re : Nat
  st : Int
  tk : Tok
def RunJ (T0 : Nat) (b : Int) (u : Tok) (taps size start : Int) (pre : List Int) (c : RunSt) : Prop :=
  (∀ x ∈ c.sv, TokOk T0 b u x) ∧ ((c.st = b ∧ c.tk = u) ∨ T0 ≤ c.tk) ∧
  IntsAre c.sv (statesF taps size start pre.length) ∧ IntsAre c.rv (rowF taps size start pre.length) ∧ c.st = stN taps size start pre.length
theorem run_spec {a b c : Int} {t u v : Tok} {Q : Value → Shared → Prop} (D : Gd w p loose mean mg mb G) (hG : ∀ b o, G.get? b = some o → s.heap.get? b = some o) (r : Rm 2 A) (hc : 1 ≤ c ∧ c ≤ 4)
   (ret : ∀ (n : Nat) (T l : Addr) (vs : List Value) (e : Nat) (t : Tok) (h' : Heap) (tk : Nat), (2 : Int) ^ c.toNat - 1 = (n : Int) → Ext [] s.heap h' → s.heap.get? T = none → s.heap.get? l = none → l < T →
      h'.get? T = some { cls := .type "tuple", data := .seq #[.ref l, .bytes (byteArr (rowF a c b n)) t] } → h'.get? l = some (listOf vs.toArray e) → IntsAre vs (statesF a c b n) → (∀ x ∈ vs, TokOk s.toks b u x) →
      Q (.ref T) { s with heap := h', toks := tk }) : wpAny (model prog w) A (call (.ref 119) [.int a t, .int b u, .int c v]) Q E s := by
  obtain ⟨hd, dp, fr, gd, un⟩ := A
  obtain rfl : hd = none := r.hh
  have rd := r.dp
  have ru := r.un
  dsimp only at rd ru
  refine' callK (binds := [(Str.ofString "taps", .int a t), (Str.ofString "start", .int b u), (Str.ofString "size", .int c v)]) [] D hG (by simp) r.room ?ko ?kc (BindsTo.of_eq ?kb) ?kloc ?_ ?kcell ?c2 ?c3 ?c4
  case ko => k_is
  case kc => k_is
  case kb => rfl
  case kloc => exact locs rfl
  case kcell => decide
  case c2 => rfl
  case c3 => rfl
  case c4 => rfl
  intro g L' h₁ Dg lt xt wt F old X T
  simp only [List.reverse_cons, List.reverse_nil, List.nil_append, List.cons_append, List.length_cons, List.length_nil] at F ⊢
  have N : News g L' h₁ [] := News.nil
  try dsimp only
  change wpAny _ _ _ _ _ _
  k_fold

  have Gg : ∀ b o, G.get? b = some o → g.get? b = some o := fun b o e => xt.1 b o (by simp) (hG b o e)
  have r0 := r
  obtain ⟨hc1, hc2⟩ := hc
  obtain ⟨n, hn, hn1, hn2⟩ : ∃ n : Nat, (2 : Int) ^ c.toNat - 1 = (n : Int) ∧ 1 ≤ n ∧ n ≤ 15 := by
    have : c = 1 ∨ c = 2 ∨ c = 3 ∨ c = 4 := by omega
    rcases this with rfl | rfl | rfl | rfl
    · exact ⟨1, by decide⟩
    · exact ⟨3, by decide⟩
    · exact ⟨7, by decide⟩
    · exact ⟨15, by decide⟩
  obtain ⟨hp1, hp2⟩ : (2 : Int) ≤ 2 ^ c.toNat ∧ (2 : Int) ^ c.toNat ≤ 16 := by omega
  refine execs_lastT (T0 := s.toks) (pre := [_]) (rest := [_, _]) (Nat.le_add_right _ _) ?_
  change wpAny _ _ _ _ _ _
  k_fold
  iterate 7 (first | (k_unfold; (try dsimp only)) | (k_end; wrow_close) | walk1 | (dsimp only; walk1))
  refine newList_K (by assumption) (by assumption) ?_
  intro l1 h1 F1 N1 lt1
  replace lt1 := allLt_of lt1; simp only [AllLt, and_true] at lt1
  clear F N
  iterate 3 (first | (k_unfold; (try dsimp only)) | (k_end; wrow_close) | walk1 | (dsimp only; walk1))
  refine newList_K (by assumption) (by assumption) ?_
  intro l2 h2 F2 N2 lt2
  replace lt2 := allLt_of lt2; simp only [AllLt, and_true] at lt2
  clear F1 N1
  iterate 20 (first | (k_unfold; (try dsimp only)) | (k_end; wrow_close) | walk1 | (dsimp only; walk1))
  refine For_T (h₀ := g) rfl rfl (wpAny_with_toks (n := s.toks) ?hT ?_)
  case hT => dsimp only; omega
  change wpAny _ _ _ _ _ _
  k_fold
  iterate 13 (first | (k_unfold; (try dsimp only)) | (k_end; wrow_close) | walk1 | (dsimp only; walk1))
  intro hT0
  skip
  rename Fr _ _ _ _ => lF
  rename News _ _ _ _ => lN
  rename IsRange _ _ _ _ _ _ _ _ => rg
  rw [hn] at rg
  refine kst_rangeT (σ := RunSt) (n := n) (fun c => [(l2, listOf c.rv.toArray c.re), (l1, listOf c.sv.toArray c.se)]) (fun c => [(Str.ofString "state", .int c.st c.tk)]) (fun _ => True) [Str.ofString "fold"]
    (RunJ s.toks b u a c b) ⟨[], 0, [], 0, b, u⟩ rfl rg (small_one (by omega) (by omega) (by omega) (by omega)) (by rw [rangeSize_nat]; omega) lF (fun q hq => lN q (.tail _ hq)) trivial (by kst_all) ⟨(fun x hx => by cases hx), .inl ⟨rfl, rfl⟩, .nil, .nil, rfl⟩ ?_ ?_
  · intro c pre k t u h tk own htk hk hlt off _ ⟨hs1, hs2, hj1, hj2, hj3⟩ F N
    replace htk := Nat.le_trans hT0 htk
    clear lF lN rg
    have kMark : KstMark := kstMark
    simp only [List.map_cons, List.map_nil] at off
    have hz1 := hj1.length
    have hz2 := hj2.length
    rw [statesF_len] at hz1
    rw [rowF_len] at hz2
    dsimp only [kstB, List.cons_append, List.nil_append] at F N
    try dsimp only
    change wpAny _ _ _ _ _ _
    k_fold
    refine execs_lastT (T0 := s.toks) (pre := [_, _, _, _, _]) (rest := [_]) htk ?_
    change wpAny _ _ _ _ _ _
    k_fold
    iterate 92 (first | (k_unfold; (try dsimp only)) | (k_end; wrow_close) | walk1 | (dsimp only; walk1))
    intro hT1
    dsimp only at hT1
    dsimp only
    refine wpAny_execs_cons ?_
    iterate 14 (first | (k_unfold; (try dsimp only)) | (k_end; wrow_close) | walk1 | (dsimp only; walk1))
    rename Fr _ _ _ _ => F3
    rename News _ _ _ _ => N3
    refine wpAny_with_toks (n := s.toks) (by dsimp only; omega) ?_
    refine rshift_spec D (fun b o e => F3.keep b o (Gg b o e)) (r0.deeper _) (by decide) fun v3 h3 tk3 x3 hT3 => ?_
    have F3' := fr_ext0 F3 x3
    have N3' := news_ext0 N3 x3
    clear F3 N3
    try dsimp only at F3' N3' hT3 ⊢
    iterate 14 (first | (k_unfold; (try dsimp only)) | (k_end; wrow_close) | walk1 | (dsimp only; walk1))
    rename Fr _ _ _ _ => F4
    rename News _ _ _ _ => N4
    refine wpAny_with_toks (n := s.toks) (by dsimp only; omega) ?_
    refine and_spec D (fun b o e => F4.keep b o (Gg b o e)) (r0.deeper _) fun v4 h4 tk4 x4 hT4 => ?_
    have F4' := fr_ext0 F4 x4
    have N4' := news_ext0 N4 x4
    clear F4 N4
    try dsimp only at F4' N4' hT4 ⊢
    iterate 7 (first | (k_unfold; (try dsimp only)) | (k_end; wrow_close) | walk1 | (dsimp only; walk1))
    rename Fr _ _ _ _ => F5
    rename News _ _ _ _ => N5
    refine wpAny_with_toks (n := s.toks) (by dsimp only; omega) ?_
    refine lshift_spec D (fun b o e => F5.keep b o (Gg b o e)) (r0.deeper _) (by omega) (by omega) (bit_small _) fun v5 h5 tk5 x5 hT5 => ?_
    have F5' := fr_ext0 F5 x5
    have N5' := news_ext0 N5 x5
    clear F5 N5
    try dsimp only at F5' N5' hT5 ⊢
    iterate 2 (first | (k_unfold; (try dsimp only)) | (k_end; wrow_close) | walk1 | (dsimp only; walk1))
    rename Fr _ _ _ _ => F6
    rename News _ _ _ _ => N6
    refine wpAny_with_toks (n := s.toks) (by dsimp only; omega) ?_
    refine or_specT D (fun b o e => F6.keep b o (Gg b o e)) (r0.deeper _) fun v6 h6 tk6 hv6 x6 hT6 => ?_
    have F6' := fr_ext0 F6 x6
    have N6' := news_ext0 N6 x6
    clear F6 N6
    try dsimp only at F6' N6' hT6 ⊢
    iterate 5 (first | (k_unfold; (try dsimp only)) | (k_end; wrow_close) | walk1 | (dsimp only; walk1))
    rename Fr _ _ _ _ => F9
    rename News _ _ _ _ => N9
    simp only [List.push_toArray] at N9
    refine kst_end ⟨_, _, _, _, _, _⟩ F9 N9 (by kst_in) (by intro q hq; kst_mem) (by rfl) trivial (by kst_all) (by kst_same) ?_
    refine ⟨?_, .inr ?_, ?_, ?_, ?_⟩ <;> simp only [List.length_append, List.length_cons, List.length_nil, statesF_succ, rowF_succ]
    · intro q hq
      rcases List.mem_append.mp hq with hq | hq
      · exact hs1 q hq
      · rw [List.mem_singleton.mp hq]; exact ⟨_, _, rfl, hs2⟩
    · dsimp only at hv6 ⊢
      omega
    · rw [← hj3]; exact IntsAre.append hj1 (.cons _ _ .nil)
    · rw [← hj3]; exact IntsAre.append hj2 (.cons _ _ .nil)
    · rw [stN, ← hj3]; rfl
  · intro c u h tk _ _ ⟨hs1, hs2, hj1, hj2, hj3⟩ F N
    clear lF lN rg
    rw [rangeKs_length] at hj1 hj2 hj3
    dsimp only [kstB, List.cons_append, List.nil_append] at F N
    try dsimp only
    iterate 12 (first | (k_unfold; (try dsimp only)) | (k_end; wrow_close) | walk1 | (dsimp only; walk1))
    have hz2 := hj2.length
    rw [rowF_len] at hz2
    refine bytes_K F N ⟨_, (N _ (.head _)).1, rfl, _, rfl⟩ hj2 (rowF_bits _ _ _ _) (by rw [sizeLine_eq]; omega) rfl ?_
    intro h' tb k' F N _
    iterate 1 (first | (k_unfold; (try dsimp only)) | (k_end; wrow_close) | walk1 | (dsimp only; walk1))
    refine kup_newTuple F N ?_ (by size_fits)
    intro T h2 F N lt
    have lt2 := lt _ (.tail _ (.head _))
    refine ret n T l1 c.sv c.se tb h2 _ hn (xt.1.trans fun b o _ e => F.keep b o e) ?_ ?_ lt2 (N _ (.head _)).1 (N _ (.tail _ (.tail _ (.head _)))).1 hj1 hs1
    · exact none_of xt.1 (N _ (.head _)).2.2
    · exact none_of xt.1 (N _ (.tail _ (.tail _ (.head _)))).2.2

end
end Mine

-- part Swap
namespace Mine
section
variable {prog : Program} {w : World} {A : Around} {E : Value → Shared → Prop} {s : Shared} {p : Program} {loose : List Str} {mean : ExcName → Option Value} {mg mb : Str → Option Value} {G : Heap}
theorem swap_spec {ns : List Int} {t u : Tok} {Q : Value → Shared → Prop} (D : Gd w p loose mean mg mb G) (hG : ∀ b o, G.get? b = some o → s.heap.get? b = some o) (r : Rm 2 A) (hb : ∀ n ∈ ns, 0 ≤ n ∧ n < 256) (hl1 : 0 < ns.length) (hl2 : ns.length ≤ 100)
    (ret : ∀ v h' tk, Ext [] s.heap h' → Q (.bytes (byteArr ns.reverse) v) { s with heap := h', toks := tk }) : wpC (model prog w) A (call (.ref 21) [.bytes (byteArr ns) t, .int ns.length u]) Q s := by
  obtain ⟨hd, dp, fr, gd, un⟩ := A
  obtain rfl : hd = none := r.hh
  have rd := r.dp
  have ru := r.un
  dsimp only at rd ru
  refine' callKD (binds := [(Str.ofString "data", .bytes (byteArr ns) t), (Str.ofString "width", .int ns.length u)]) [] D hG (by simp) r.room ?ko ?kc (BindsTo.of_eq ?kb) ?kloc ?_ ?kcell ?c2 ?c3 ?c4
  case ko => k_is
  case kc => k_is
  case kb => rfl
  case kloc => exact locs rfl
  case kcell => decide
  case c2 => rfl
  case c3 => rfl
  case c4 => rfl
  intro g L' h₁ Dg lt xt wt F old X T
  simp only [List.reverse_cons, List.reverse_nil, List.nil_append, List.cons_append, List.length_cons, List.length_nil] at F ⊢
  have N : News g L' h₁ [] := News.nil
  try dsimp only

  refine wpC_execs_cons (wpC_Assign_Name (wpC_Call_Name ?_))
  walk1
  refine wpC_callE (P := fun _ => True) keeps_type ?_
  iterate 9 (first | (k_unfold; (try dsimp only)) | (k_end; wrow_close) | walk1 | (dsimp only; walk1))
  refine ⟨trivial, bytearray_spec (by omega) (by omega) fun S h2 tk2 hx hf hlt ho => ?_⟩
  have x2 : Ext [] h₁ h2 := fun b o _ e => hx b o e
  have N2 := news_add (news_ext0 N x2) (by assumption : Fr g L' h₁ _) ho hf
  rename Fr g L' h₁ _ => F
  replace F := fr_ext0 F x2
  clear N hx
  try dsimp only at F N2
  refine wpC_any ?_
  walk1
  dsimp only
  refine wpC_any ?_
  change wpAny _ _ _ _ _ _
  k_fold
  iterate 20 (first | (k_unfold; (try dsimp only)) | (k_end; wrow_close) | walk1 | (dsimp only; walk1))
  rename Fr _ _ _ _ => lF
  rename News _ _ _ _ => lN
  rename IsRange _ _ _ _ _ _ _ _ => rg
  have hnn : (ns.length : Int).toNat = ns.length := by omega
  rw [hnn, ← pl_zero] at lN
  refine loop_range (n := 1) (fun i m nx => nx.map (·.1) = [S] ∧ m (Str.ofString "swapped_data") = some (.ref S) ∧ (i = 0 → nx = [(S, baObj (byteArr (pl ns 0)))] ∧ m = fun y => if y = Str.ofString "swapped_data" then some (Value.ref S) else List.lookup y [(Str.ofString "width", Value.int (↑ns.length) u), (Str.ofString "data", Value.bytes (byteArr ns) t)]) ∧ (i = 1 → nx = [(S, baObj (byteArr ns.reverse))]))
    rfl rg ?small ?size lF lN ⟨rfl, rfl, fun _ => ⟨rfl, rfl⟩, fun h => by cases h⟩ ?_ ?_
  case small =>
    unfold Builtin.Range.small
    have e : Builtin.Range.rangeSize 0 ns.length ns.length = 1 := by
      unfold Builtin.Range.rangeSize
      rw [if_pos (by omega), if_pos (by omega), Int.ediv_eq_zero_of_lt (by omega) (by omega)]
      rfl
    rw [e, if_pos (by omega)]
    have fits : ∀ z : Int, 0 ≤ z → z ≤ 1000 → Builtin.Range.rangeFitsLong z = true := fun z h0 h1 => by
      simp only [Builtin.Range.rangeFitsLong, Bool.and_eq_true, decide_eq_true_eq]; omega
    rw [fits 0 (by omega) (by omega), fits _ (by omega) (by omega), fits 1 (by omega) (by omega), fits (_ + _) (by omega) (by omega)]
    rfl
  case size =>
    unfold Builtin.Range.rangeSize
    rw [if_pos (by omega), if_pos (by omega), Int.ediv_eq_zero_of_lt (by omega) (by omega)]
    rfl
  · intro i t1 m₁ nx h tk own hi off ⟨_, _, hj, _⟩ F N
    obtain rfl : i = 0 := by omega
    obtain ⟨rfl, rfl⟩ := hj rfl
    clear lF lN rg hj
    have kMark : KstMark := kstMark
    simp only [List.map_cons, List.map_nil] at off
    simp only [List.cons_append, List.nil_append] at N
    have e0 : (0 : Int) + ((0 : Nat) : Int) * (ns.length : Int) = 0 := by omega
    rw [e0] at F
    dsimp only at F
    try dsimp only
    change wpAny _ _ _ _ _ _
    k_fold
    iterate 9 (first | (k_unfold; (try dsimp only)) | (k_end; wrow_close) | walk1 | (dsimp only; walk1))
    rename Fr _ _ _ _ => lF
    rename News _ _ _ _ => lN
    rename IsRange _ _ _ _ _ _ _ _ => rg
    refine loop_range (n := ns.length) (fun i m nx => nx = (S, baObj (byteArr (pl ns i))) :: own ∧ ∀ z, z ≠ Str.ofString "j" → m z = (fun y => if y = Str.ofString "i" then some (Value.int 0 t1) else if y = Str.ofString "swapped_data" then some (Value.ref S) else List.lookup y [(Str.ofString "width", Value.int (↑ns.length) u), (Str.ofString "data", Value.bytes (byteArr ns) t)]) z)
      rfl rg (small_one (by omega) (by omega) (by omega) (by omega)) (by rw [rangeSize_nat]; omega) lF lN ⟨rfl, fun _ _ => rfl⟩ ?_ ?_
    · intro j tj m₁ nx h tk own2 hj off2 ⟨hnx, hm⟩ F N
      subst hnx
      clear lF lN rg
      have kMark : KstMark := kstMark
      replace F := fr_same hm F
      have e1 : (0 : Int) + (j : Int) * 1 = j := by omega
      rw [e1] at F
      simp only [List.cons_append, List.map_cons] at N off2
      dsimp only at F
      try dsimp only
      change wpAny _ _ _ _ _ _
      k_fold
      iterate 8 (first | (k_unfold; (try dsimp only)) | (k_end; wrow_close) | walk1 | (dsimp only; walk1))
      refine by_item hb (by omega) (by omega) (by omega) ?_
      have ev : (0 + (j : Int)).toNat = j := by omega
      rw [ev]
      dsimp only
      iterate 11 (first | (k_unfold; (try dsimp only)) | (k_end; wrow_close) | walk1 | (dsimp only; walk1))
      refine ba_set (N _ (.head _)).1 (by omega) (by rw [byteArr_size, pl_len (by omega)]; omega) (by rw [byteArr_size, pl_len (by omega)]; omega) ?_ ?_ fun h3 hs3 ho3 => ?_
      · exact (hb _ (by rw [List.getD_eq_getElem?_getD, List.getElem?_eq_getElem hj]; exact List.getElem_mem hj)).1
      · exact (hb _ (by rw [List.getD_eq_getElem?_getD, List.getElem?_eq_getElem hj]; exact List.getElem_mem hj)).2
      have ei : (0 + (ns.length : Int) - 1 - (j : Int)).toNat = ns.length - 1 - j := by omega
      rw [ei, pl_set hj] at ho3
      rename Fr _ _ _ _ => lF
      have N3 := news_put N hs3 ho3 (fun q hq => (List.mem_append.mp hq).elim (fun h => off q h S (.head _)) fun h => off2 q h S (.head _))
      have F3 := fr_put lF N hs3
      clear lF N
      try dsimp only at F3 N3 ⊢
      iterate 3 (first | (k_unfold; (try dsimp only)) | (k_end; wrow_close) | walk1 | (dsimp only; walk1))
      refine InvEndN.intro (nx := (S, baObj (byteArr (pl ns (j + 1)))) :: own) F3 N3 ⟨rfl, fun z hz => if_neg hz⟩ rfl (fun q hq => ?_) fun q hq => ?_
      · rcases List.mem_cons.mp hq with rfl | hq
        · exact .head _
        · exact .tail _ (List.mem_append_left _ hq)
      · exact .tail _ (List.mem_append_right _ hq)
    · intro m₁ nx h tk ⟨hnx, hm⟩ F N
      subst hnx
      clear lF lN rg
      rw [pl_last] at N
      try dsimp only
      iterate 3 (first | (k_unfold; (try dsimp only)) | (k_end; wrow_close) | walk1 | (dsimp only; walk1))
      refine InvEndN.intro (nx := [(S, baObj (byteArr ns.reverse))]) F N ⟨rfl, ?_, (fun h => by omega), fun _ => rfl⟩ rfl (fun q hq => ?_) fun q hq => ?_
      · rw [hm _ (by decide)]; rfl
      · rw [List.mem_singleton.mp hq]; exact .head _
      · exact .tail _ hq
  · intro m₁ nx h tk ⟨_, hm, _, hj⟩ F N
    rw [hj rfl] at N
    clear lF lN rg hj
    try dsimp only
    iterate 3 (first | (k_unfold; (try dsimp only)) | (k_end; wrow_close) | walk1 | (dsimp only; walk1))
    walk1
    iterate 2 (first | (k_unfold; (try dsimp only)) | (k_end; wrow_close) | walk1 | (dsimp only; walk1))
    refine nameX_L F hm ?_
    iterate 1 (first | (k_unfold; (try dsimp only)) | (k_end; wrow_close) | walk1 | (dsimp only; walk1))
    refine ba_bytes (N _ (.head _)).1 (by rw [byteArr_size, List.length_reverse]; omega) fun tb k => ?_
    iterate 1 (first | (k_unfold; (try dsimp only)) | (k_end; wrow_close) | walk1 | (dsimp only; walk1))
    exact ret _ _ _ (xt.1.trans fun b o _ e => F.keep b o e)

end
end Mine

-- part Div
namespace Mine
section
variable {prog : Program} {w : World} {A : Around} {E : Value → Shared → Prop} {s : Shared} {p : Program} {loose : List Str} {mean : ExcName → Option Value} {mg mb : Str → Option Value} {G : Heap}
theorem div_spec {a b n : Int} {t u v : Tok} {Q : Value → Shared → Prop} (D : Gd w p loose mean mg mb G) (hG : ∀ b o, G.get? b = some o → s.heap.get? b = some o) (r : Rm 1 A) (hb : b ≠ 0) (hn0 : 0 ≤ n) (ha : Builtin.Int.intBits a ≤ 2000) (hbb : Builtin.Int.intBits b ≤ 2000)
    (ret : ∀ T t1 t2 h' tk, Ext [] s.heap h' → s.heap.get? T = none → h'.get? T = some { cls := .type "tuple", data := .seq #[.int (a.fdiv b) t1, .int (a.fmod b) t2] } → Q (.ref T) { s with heap := h', toks := tk }) :
    wpAny (model prog w) A (call (.ref 28) [.int a t, .int b u, .int n v]) Q E s := by
  obtain ⟨hd, dp, fr, gd, un⟩ := A
  obtain rfl : hd = none := r.hh
  have rd := r.dp
  have ru := r.un
  dsimp only at rd ru
  refine' callK (binds := [(Str.ofString "a", .int a t), (Str.ofString "b", .int b u), (Str.ofString "n", .int n v)]) [] D hG (by simp) r.room ?ko ?kc (BindsTo.of_eq ?kb) ?kloc ?_ ?kcell ?c2 ?c3 ?c4
  case ko => k_is
  case kc => k_is
  case kb => rfl
  case kloc => exact locs rfl
  case kcell => decide
  case c2 => rfl
  case c3 => rfl
  case c4 => rfl
  intro g L' h₁ Dg lt xt wt F old X T
  simp only [List.reverse_cons, List.reverse_nil, List.nil_append, List.cons_append, List.length_cons, List.length_nil] at F ⊢
  have N : News g L' h₁ [] := News.nil
  try dsimp only
  change wpAny _ _ _ _ _ _
  k_fold

  iterate 15 (first | (k_unfold; (try dsimp only)) | (k_end; wrow_close) | walk1 | (dsimp only; walk1))
  refine ite_pos ?_ ?_
  · simp only [decide_eq_true_eq]
    omega
  iterate 11 (first | (k_unfold; (try dsimp only)) | (k_end; wrow_close) | walk1 | (dsimp only; walk1))
  rename Fr _ _ _ _ => F
  refine divmod_N F N hb (fun h' F' N' => ?_) ?_
  · iterate 1 (first | (k_unfold; (try dsimp only)) | (k_end; wrow_close) | walk1 | (dsimp only; walk1))
    exact ret _ _ _ _ _ (xt.1.trans fun b o _ e => F'.keep b o e) (none_of xt.1 (N' _ (.head _)).2.2) (N' _ (.head _)).1
  · refine Or.inl (PyProof.noPylong_of_log2 ?_)
    unfold Builtin.Int.intBits at hbb
    rw [if_neg (by simpa using hb)] at hbb
    omega

end
end Mine

-- part Clos
namespace Mine
/-- the table of a def's nested code: empty, or with the one code object laid -/
def Tab (P : Addr) (line col : Int) (qual : Str) (h : Heap) : Prop := h.get? P = some (tabObj #[]) ∨ ∃ c', h.get? P = some (tabObj #[rawInt line, rawInt col, .ref c']) ∧ 136 < c' ∧ h.CodeRec (.ref c') qual
theorem Tab.get {P : Addr} {line col : Int} {qual : Str} {h : Heap} (x : Tab P line col qual h) : ∃ o, h.get? P = some o := by
  rcases x with e | ⟨c', e, _⟩
  · exact ⟨_, e⟩
  · exact ⟨_, e⟩
theorem Tab.ext {P : Addr} {line col : Int} {qual : Str} {h h' : Heap} {W : List Addr} (x : Tab P line col qual h) (e : Ext W h h') (hP : P ∉ W) (hW : ∀ b ∈ W, b ≤ 136) : Tab P line col qual h' := by
  rcases x with x | ⟨c', x, hc, c, o, vs, t, e1, e2, r⟩
  · exact .inl (e _ _ hP x)
  · cases e1
    exact .inr ⟨c', e _ _ hP x, hc, c', o, vs, t, rfl, e _ _ (fun q => absurd (hW _ q) (Nat.not_le.mpr hc)) e2, r⟩
/-- the table is filled -/
def TabIn (P : Addr) (line col : Int) (qual : Str) (h : Heap) : Prop := ∃ c', h.get? P = some (tabObj #[rawInt line, rawInt col, .ref c']) ∧ 136 < c' ∧ h.CodeRec (.ref c') qual
theorem TabIn.tab {P : Addr} {line col : Int} {qual : Str} {h : Heap} (x : TabIn P line col qual h) : Tab P line col qual h := .inr x
theorem TabIn.ext {P : Addr} {line col : Int} {qual : Str} {h h' : Heap} {W : List Addr} (x : TabIn P line col qual h) (e : Ext W h h') (hP : P ∉ W) (hW : ∀ b ∈ W, b ≤ 136) : TabIn P line col qual h' := by
  obtain ⟨c', x, hc, c, o, vs, t, e1, e2, r⟩ := x
  cases e1
  exact ⟨c', e _ _ hP x, hc, c', o, vs, t, rfl, e _ _ (fun q => absurd (hW _ q) (Nat.not_le.mpr hc)) e2, r⟩
/-- a filled table stays as it is -/
def Same (P : Addr) (line col : Int) (h h' : Heap) : Prop := ∀ c₀, h.get? P = some (tabObj #[rawInt line, rawInt col, .ref c₀]) → h'.get? P = some (tabObj #[rawInt line, rawInt col, .ref c₀])
theorem TabIn.stay {P : Addr} {line col : Int} {qual : Str} {h h' : Heap} (x : TabIn P line col qual h) (e : Ext [P] h h') (y : Same P line col h h') : Ext [] h h' := by
  obtain ⟨c', x, _⟩ := x
  intro b o _ q
  by_cases hb : b = P
  · subst hb
    rw [x] at q; cases q
    exact y _ x
  · exact e b o (by simpa using hb) q
/-- a filled table as a piece of the ledger -/
theorem TabIn.part {P : Addr} {line col : Int} {qual : Str} {g h : Heap} {L : Addr} {m : Str → Option Value} (x : TabIn P line col qual h) (F : Fr g L h m) (hP : g.get? P = none) (hPL : P ≠ L) :
    ∃ ex, News g L h ex ∧ ∀ h'', (∀ b o, g.get? b = some o → h''.get? b = some o) → (∀ q ∈ ex, h''.get? q.1 = some q.2) → TabIn P line col qual h'' := by
  obtain ⟨c', x, hc, c, o, vs, t, e1, e2, r⟩ := x
  cases e1
  by_cases hg : g.get? c' = none
  · have cL : c' ≠ L := fun q => by
      obtain ⟨oL, mL, _, eL, dL, _⟩ := F.ns
      rw [← q, e2] at eL
      cases eL
      rw [r.1] at dL
      cases dL
    refine ⟨[(P, _), (c', o)], fun q hq => ?_, fun h'' _ he => ⟨c', he _ (.head _), hc, c', o, vs, t, rfl, he _ (.tail _ (.head _)), r⟩⟩
    rcases List.mem_cons.mp hq with rfl | hq
    · exact ⟨x, hPL, hP⟩
    · rw [List.mem_singleton.mp hq]; exact ⟨e2, cL, hg⟩
  · obtain ⟨o', ho'⟩ := Option.ne_none_iff_exists'.mp hg
    have := F.keep _ _ ho'
    rw [e2] at this; cases this
    refine ⟨[(P, _)], fun q hq => ?_, fun h'' hk he => ⟨c', he _ (.head _), hc, c', o, vs, t, rfl, hk _ _ ho', r⟩⟩
    rw [List.mem_singleton.mp hq]; exact ⟨x, hPL, hP⟩
def RecIn (g : Heap) (extra : List (Addr × Obj)) (c' : Addr) (qual : Str) : Prop := ∀ h'' : Heap, (∀ b o, g.get? b = some o → h''.get? b = some o) → (∀ p ∈ extra, h''.get? p.1 = some p.2) → h''.CodeRec (.ref c') qual
section
variable {prog : Program} {w : World} {A : Around} {E : Value → Shared → Prop} {s : Shared} {h₀ : Heap} {L a c P : Addr} {m mg mb : Str → Option Value} {cn : Str} {cs : Scope} {ccd : Value} {cl : List (Str × Addr)} {cells : List (Addr × Obj)}
  {p : Program} {loose : List Str} {mean : ExcName → Option Value} {name qual : Str} {params : Arguments} {body : List Stmt} {scope : Scope} {pos : Pos} {firstLine : Nat} {clos : List (Str × Addr)}
theorem nest_both {Q : Value → Shared → Prop} (F : Fr h₀ L s.heap m) (N : News h₀ L s.heap cells) (T : Top p loose mean mg mb h₀) (C : CodeHd h₀ c P) (hcd : ccd = .ref c) (hT : Tab P pos.line pos.col qual s.heap) (hPL : P < L) (hL : 136 < L) (hcells : ∀ q ∈ cells, L < q.1) (hne : ∃ q, q ∈ cells) (hP : h₀.get? P = none)
    (hrec : ∀ c', s.heap.get? P = some (tabObj #[rawInt pos.line, rawInt pos.col, .ref c']) → h₀.CodeRec (.ref c') qual)
    (hcl : closureFor scope (envX cn cs L a ccd cl) = pure clos)
    (h : ∀ f c' ctv doc extra h' tk, Fr h₀ L h' m → News h₀ L h' ((f, fnMade name qual params body scope clos doc ((mg "__name__").getD .none) c' ctv) :: (P, tabObj #[rawInt pos.line, rawInt pos.col, .ref c']) :: (cells ++ extra)) →
      RecIn h₀ extra c' qual → 136 < c' → (∀ q ∈ cells, q.1 < f) → (∀ r ∈ extra, L < r.1 ∧ ∀ q ∈ cells, q.1 < r.1) → L < f → (∀ c₀, s.heap.get? P = some (tabObj #[rawInt pos.line, rawInt pos.col, .ref c₀]) → c' = c₀) → Q (.ref f) { s with heap := h', toks := tk }) :
    wpAny (model prog w) A (makeFunction name qual params (.stmts body) scope (envX cn cs L a ccd cl) [] [] [] pos firstLine) Q E s := by
  have offP : ∀ q ∈ cells, q.1 ≠ P := fun q hq e => by have h1 := hcells q hq; rw [e] at h1; exact absurd hPL (Nat.lt_asymm h1)
  have withP : ∀ o, s.heap.get? P = some o → News h₀ L s.heap ((P, o) :: cells) := fun o ho q hq => by
    rcases List.mem_cons.mp hq with rfl | hq
    · exact ⟨ho, Nat.ne_of_lt hPL, hP⟩
    · exact N q hq
  rcases hT with hT | ⟨c', hT, hc, hr⟩
  · refine nest_K (ps := #[]) F (withP _ hT) T C hcd (UpdF.head offP) trivial rfl hcl fun f c' oc vs tq ctv doc h' tk F' N' e1 e2 l1 l2 => ?_
    have lc : P < c' := l1 _ (.head _)
    obtain ⟨q₀, hq₀⟩ := hne
    have Lc : L < c' := Nat.lt_trans (hcells q₀ hq₀) (l1 _ (.tail _ hq₀))
    refine h f c' ctv doc [(c', oc)] h' tk F' (fun q hq => ?_) (fun h'' _ he => ⟨c', oc, vs, tq, rfl, he _ (.head _), e1, e2⟩) (Nat.lt_trans hL Lc) (fun q hq => Nat.lt_trans (l1 _ (.tail _ hq)) l2)
      (fun r hr => by rw [List.mem_singleton.mp hr]; exact ⟨Lc, fun q hq => l1 _ (.tail _ hq)⟩) (Nat.lt_trans Lc l2) (fun c₀ e => by rw [hT] at e; cases e)
    rcases List.mem_cons.mp hq with rfl | hq
    · exact N' _ (.head _)
    · rcases List.mem_cons.mp hq with rfl | hq
      · exact N' _ (.tail _ (.tail _ (.head _)))
      · rcases List.mem_append.mp hq with hq | hq
        · exact N' _ (.tail _ (.tail _ (.tail _ hq)))
        · rw [List.mem_singleton.mp hq]; exact N' _ (.tail _ (.head _))
  · refine nestHit_K (c' := c') (ps := #[rawInt pos.line, rawInt pos.col, .ref c']) F (withP _ hT) T C hcd (.head _) ?_ ?_ hcl fun f ctv doc h' tk F' N' l1 => ?_
    · exact trivial
    · simp [codeAmong, rawInt]
    · obtain ⟨q₀, hq₀⟩ := hne
      refine h f c' ctv doc [] h' tk F' (fun q hq => N' q (by rw [List.append_nil] at hq; exact hq)) (fun h'' hk _ => ?_) hc (fun q hq => l1 _ (.tail _ hq)) (fun r hr => nomatch hr) (Nat.lt_trans (hcells q₀ hq₀) (l1 _ (.tail _ hq₀))) (fun c₀ e => by rw [hT] at e; cases e; rfl)
      obtain ⟨c, o, vs, t, e0, e1, e2⟩ := hrec c' hT
      exact ⟨c, o, vs, t, e0, hk _ _ e1, e2⟩
end
end Mine

-- part PlainD
namespace Mine
/-- digits to the base 2 ^ n, the lowest first, as one number -/
def dv (n : Nat) : List Int → Int
  | [] => 0
  | d :: r => d + 2 ^ n * dv n r
theorem dv_append (n : Nat) : ∀ (a b : List Int), dv n (a ++ b) = dv n a + 2 ^ (n * a.length) * dv n b
  | [], b => by simp [dv]
  | d :: r, b => by
    rw [List.cons_append, dv, dv_append n r b, dv, List.length_cons, Nat.mul_succ, Int.pow_add, Int.mul_add, ← Int.mul_assoc, Int.mul_comm (2 ^ n) (2 ^ (n * r.length))]
    omega
theorem dv_bound {n K : Nat} : ∀ {l : List Int}, (∀ d ∈ l, d.natAbs < 2 ^ K) → (dv n l).natAbs < 2 ^ (K + (n + 1) * l.length)
  | [], _ => by simp only [dv, Int.natAbs_zero]; exact Nat.two_pow_pos _
  | d :: r, h => by
    have ih := dv_bound (n := n) (fun x hx => h x (.tail _ hx))
    have hd := h d (.head _)
    have e1 : (2 ^ n * dv n r).natAbs = 2 ^ n * (dv n r).natAbs := by rw [Int.natAbs_mul, Int.natAbs_pow]; rfl
    have e2 : (d + 2 ^ n * dv n r).natAbs ≤ d.natAbs + 2 ^ n * (dv n r).natAbs := by rw [← e1]; exact Int.natAbs_add_le _ _
    have e3 : 2 ^ n * (dv n r).natAbs < 2 ^ n * 2 ^ (K + (n + 1) * r.length) := Nat.mul_lt_mul_of_pos_left ih (Nat.two_pow_pos n)
    have e4 : 2 ^ K ≤ 2 ^ n * 2 ^ (K + (n + 1) * r.length) := by
      rw [← Nat.pow_add]
      exact Nat.pow_le_pow_right (by decide) (by omega)
    have e5 : 2 ^ (K + (n + 1) * (r.length + 1)) = 2 * (2 ^ n * 2 ^ (K + (n + 1) * r.length)) := by
      rw [← Nat.pow_add, ← Nat.pow_succ']
      congr 1
      rw [Nat.mul_succ]
      omega
    rw [dv, List.length_cons, e5]
    omega
theorem mid_eq (a b : Nat) : ((a : Int) + (b : Int)).fdiv (2 ^ (1 : Int).toNat) = (((a + b) / 2 : Nat) : Int) := by
  have : ((a : Int) + (b : Int)).fdiv (2 ^ (1 : Int).toNat) = ((a + b : Nat) : Int).fdiv 2 := by congr 1
  rw [this, Int.fdiv_eq_ediv_of_nonneg _ (by decide)]
  rfl
theorem slice_split {ds : List Int} {lo mid hi : Nat} (h1 : lo ≤ mid) (h2 : mid ≤ hi) (h3 : hi ≤ ds.length) : (ds.drop lo).take (hi - lo) = (ds.drop lo).take (mid - lo) ++ (ds.drop mid).take (hi - mid) := by
  have e1 : hi - lo = (mid - lo) + (hi - mid) := by omega
  have e2 : ds.drop mid = (ds.drop lo).drop (mid - lo) := by rw [List.drop_drop]; congr 1; omega
  rw [e1, List.take_add, e2]
theorem slice_len {ds : List Int} {lo hi : Nat} (h2 : lo ≤ hi) (h3 : hi ≤ ds.length) : ((ds.drop lo).take (hi - lo)).length = hi - lo := by
  rw [List.length_take, List.length_drop]; omega
theorem dv_split {n : Nat} {ds : List Int} {lo mid hi : Nat} (h1 : lo ≤ mid) (h2 : mid ≤ hi) (h3 : hi ≤ ds.length) :
    dv n ((ds.drop mid).take (hi - mid)) * 2 ^ (n * (mid - lo)) + dv n ((ds.drop lo).take (mid - lo)) = dv n ((ds.drop lo).take (hi - lo)) := by
  rw [slice_split h1 h2 h3, dv_append, slice_len h1 (by omega), Int.mul_comm, Int.add_comm]
theorem dv_one {n : Nat} {ds : List Int} {lo : Nat} (h : lo < ds.length) : dv n ((ds.drop lo).take (lo + 1 - lo)) = ds[lo] := by
  have e : lo + 1 - lo = 1 := by omega
  rw [e, List.drop_eq_getElem_cons h, List.take_succ_cons, List.take_zero, dv, dv, Int.mul_zero, Int.add_zero]
section
variable {M : Model} {A : Around} {E : Value → Shared → Prop} {s : Shared} {h₀ : Heap} {L a : Addr} {m : Str → Option Value} {cn : Str} {cs : Scope} {ccd : Value} {cl : List (Str × Addr)} {x : Str} {pos : Pos} {v : Value} {Q : Value → Shared → Prop} {c : Addr} {o : Obj}
theorem nameX_base (F : Fr h₀ L s.heap m) (hc : cl.lookup x = some c) (ho : h₀.get? c = some o) (hd : o.data = .cell (some v)) (h : Q v s)
    (hk : cs.kind = .function := by rfl) (hx : (envX cn cs L a ccd cl).kindOf x = some .free := by rfl) (hb : (x == ("__debug__" : Str)) = false := by decide) (hn : (x == ("__classdict__" : Str)) = false := by decide) :
    wpAny M A (eval (.Name x pos) (envX cn cs L a ccd cl)) Q E s := wpAny_Name (wpAny_loadName_free hk hx hc ⟨o, F.keep _ _ ho, hd⟩ h hn) hb
theorem fnAt_base {q : Addr} {h : Heap} {oc : Value} {od : Option Addr} {fd : FuncData} {sl : Array (Option Value)} (F : Fr h₀ L h m) (ho : h₀.get? q = some ⟨oc, od, .func fd, sl⟩) : FnAt q h := ⟨oc, od, fd, sl, F.keep _ _ ho⟩
end
end Mine

-- part PlainI
namespace Mine
/-- the k lowest digits of x to the base 2 ^ n -/
def digN (n : Nat) : Nat → Nat → List Int
  | _, 0 => []
  | x, k + 1 => ((x % 2 ^ n : Nat) : Int) :: digN n (x / 2 ^ n) k
theorem digN_len (n : Nat) : ∀ (k x : Nat), (digN n x k).length = k
  | 0, _ => rfl
  | k + 1, x => by rw [digN, List.length_cons, digN_len n k]
theorem digN_append (n : Nat) (b : Nat) : ∀ (a x : Nat), digN n x (a + b) = digN n (x % 2 ^ (n * a)) a ++ digN n (x / 2 ^ (n * a)) b
  | 0, x => by simp [digN]
  | a + 1, x => by
    have e1 : a + 1 + b = (a + b) + 1 := by omega
    rw [e1, digN, digN_append n b a, digN, List.cons_append]
    have e2 : 2 ^ (n * (a + 1)) = 2 ^ n * 2 ^ (n * a) := by rw [Nat.mul_succ, Nat.pow_add, Nat.mul_comm]
    rw [e2, Nat.mod_mul_right_mod, Nat.mod_mul_right_div_self, Nat.div_div_eq_div_mul]
theorem digN_one {n x : Nat} (h : x < 2 ^ n) : digN n x 1 = [(x : Int)] := by
  rw [digN, digN, Nat.mod_eq_of_lt h]
theorem and_high (x s : Nat) : x &&& (x / 2 ^ s * 2 ^ s) = x / 2 ^ s * 2 ^ s := by
  apply Nat.eq_of_testBit_eq
  intro i
  rw [Nat.testBit_and, Nat.testBit_mul_two_pow, Nat.testBit_div_two_pow]
  by_cases h : s ≤ i
  · have e : i - s + s = i := by omega
    simp [h, e]
  · simp [h]
theorem xor_low (x s : Nat) : Builtin.bitXor (x : Int) (((x / 2 ^ s : Nat) : Int) * 2 ^ s) = ((x % 2 ^ s : Nat) : Int) := by
  have e : ((x / 2 ^ s : Nat) : Int) * 2 ^ s = ((x / 2 ^ s * 2 ^ s : Nat) : Int) := by
    rw [Int.natCast_mul, Int.natCast_pow]; rfl
  rw [e, bitXor_and]
  have e2 : Builtin.bitAnd (x : Int) ((x / 2 ^ s * 2 ^ s : Nat) : Int) = ((x / 2 ^ s * 2 ^ s : Nat) : Int) := by
    unfold Builtin.bitAnd
    rw [decide_eq_true (Int.natCast_nonneg _), decide_eq_true (Int.natCast_nonneg _)]
    dsimp only
    rw [Int.toNat_natCast, Int.toNat_natCast, and_high]
  rw [e2]
  have := Nat.div_add_mod x (2 ^ s)
  rw [Nat.mul_comm] at this
  omega
theorem shr_nat (x s : Nat) : (x : Int).fdiv (2 ^ s) = ((x / 2 ^ s : Nat) : Int) := by
  have e : (2 : Int) ^ s = ((2 ^ s : Nat) : Int) := by rw [Int.natCast_pow]; rfl
  rw [e, Int.fdiv_eq_ediv_of_nonneg _ (Int.natCast_nonneg _)]
  rfl
/-- one piece of a list, filled with digits -/
def fillD (ds : List Int) (lo hi : Nat) (d : List Int) : List Int := ds.take lo ++ (d ++ ds.drop hi)
theorem fillD_len {ds d : List Int} {lo hi : Nat} (h1 : lo ≤ hi) (h2 : hi ≤ ds.length) (h3 : d.length = hi - lo) : (fillD ds lo hi d).length = ds.length := by
  unfold fillD
  rw [List.length_append, List.length_append, List.length_take, List.length_drop, h3]; omega
theorem fillD_two {ds d1 d2 : List Int} {lo mid hi : Nat} (h1 : lo ≤ mid) (h2 : mid ≤ hi) (h3 : hi ≤ ds.length) (e1 : d1.length = mid - lo) (e2 : d2.length = hi - mid) :
    fillD (fillD ds lo mid d1) mid hi d2 = fillD ds lo hi (d1 ++ d2) := by
  unfold fillD
  have a1 : (ds.take lo ++ (d1 ++ ds.drop mid)).take mid = ds.take lo ++ d1 := by
    rw [← List.append_assoc]
    apply List.take_left'
    rw [List.length_append, List.length_take, e1]; omega
  have a2 : (ds.take lo ++ (d1 ++ ds.drop mid)).drop hi = ds.drop hi := by
    rw [← List.append_assoc, List.drop_append]
    have l1 : (ds.take lo ++ d1).length = mid := by rw [List.length_append, List.length_take, e1]; omega
    rw [l1, List.drop_of_length_le (by rw [l1]; omega), List.nil_append, List.drop_drop]
    congr 1; omega
  rw [a1, a2]
  simp only [List.append_assoc]
theorem set_fillD {ds : List Int} {lo : Nat} {v : Int} (h : lo < ds.length) : ds.set lo v = fillD ds lo (lo + 1) [v] := by
  unfold fillD
  rw [List.set_eq_take_append_cons_drop, if_pos h]; rfl
theorem lt_bits (x : Nat) : x < 2 ^ Builtin.Int.intBits (x : Int) := by
  unfold Builtin.Int.intBits
  by_cases h : x = 0
  · subst h; decide
  · have e : ((x : Int) == 0) = false := by simp [h]
    rw [e]
    simp only [Int.natAbs_natCast, Bool.false_eq_true, if_false]
    exact Nat.lt_log2_self
theorem ints_set (v : Int) (t : Tok) : ∀ {vs : List Value} {ds : List Int}, IntsAre vs ds → ∀ lo, IntsAre (vs.set lo (.int v t)) (ds.set lo v)
  | _, _, .nil, _ => .nil
  | _, _, .cons n u r, 0 => .cons v t r
  | _, _, .cons n u r, lo + 1 => .cons n u (ints_set v t r lo)
theorem ints_zero (t : Tok) : ∀ k : Nat, IntsAre (List.replicate k [Value.int 0 t]).flatten (List.replicate k (0 : Int))
  | 0 => .nil
  | k + 1 => by rw [List.replicate_succ, List.replicate_succ, List.flatten_cons]; exact .cons _ _ (ints_zero t k)
theorem zeros_len (t : Tok) (k : Nat) : (List.replicate k [Value.int 0 t]).flatten.length = k := by rw [(ints_zero t k).length, List.length_replicate]
theorem fill_all (k : Nat) (d : List Int) : fillD (List.replicate k (0 : Int)) 0 k d = d := by simp [fillD]
theorem bits_digits {bl n k : Nat} (hn : 1 ≤ n) (hk : k = (bl + n - 1) / n) : bl ≤ n * k := by
  have h1 := Nat.div_add_mod (bl + n - 1) n
  have h2 := Nat.mod_lt (bl + n - 1) (show n > 0 by omega)
  rw [← hk] at h1
  omega
theorem digits_pos {x bl n k : Nat} (hn : 1 ≤ n) (hk : k = (bl + n - 1) / n) (hx : x < 2 ^ bl) (h0 : x ≠ 0) : 0 < k := by
  have h := bits_digits hn hk
  rcases Nat.eq_zero_or_pos k with e | e
  · rw [e, Nat.mul_zero] at h
    have : bl = 0 := by omega
    rw [this] at hx
    omega
  · exact e
end Mine

section
local macro_rules | `(tactic| walk_at "FnAt") => `(tactic| exact Mine.fnAt_base (by assumption) (by assumption))
local macro_rules | `(tactic| walk_at "callWith ref") => `(tactic| (k_here; k_dflt (refine' callWith_F ?k1 ?_; (case k1 => exact Mine.fnAt_base (by assumption) (by assumption)); k_whole)))
local macro_rules | `(tactic| walk_at "eval Name") => `(tactic| (k_here; k_dflt (refine' Mine.nameX_base ?F ?c ?o ?d ?_ ?a ?b; (case a => rfl); (case b => rfl); (case F => k_asm); (case c => rfl); (case o => assumption); (case d => assumption); k_whole)))
-- part I2d
namespace Mine
section
variable {prog : Program} {w : World} {A : Around} {E : Value → Shared → Prop} {s : Shared} {p : Program} {loose : List Str} {mean : ExcName → Option Value} {mg mb : Str → Option Value} {G : Heap}
abbrev qI : Str := Str.ofString "_int2digits" ++ ".<locals>." ++ Str.ofString "inner"
theorem i2d_spec {x n k : Nat} {t u : Tok} {Q : Value → Shared → Prop} (D : Gd w p loose mean mg mb G) (hG : ∀ b o, G.get? b = some o → s.heap.get? b = some o) (h37 : G.get? 37 = none) (r : Rm 50 A)
    (hT : Tab 37 39 4 qI s.heap) (hx : x < 2 ^ 2000) (hn1 : 1 ≤ n) (hn : n ≤ 600) (hk : k = (Builtin.Int.intBits (x : Int) + n - 1) / n) (hk40 : k ≤ 40)
    (ret : ∀ l vs e h' tk, Ext [37] s.heap h' → TabIn 37 39 4 qI h' → Same 37 39 4 s.heap h' → s.heap.get? l = none → h'.get? l = some (listOf vs.toArray e) → IntsAre vs (digN n x k) → Q (.ref l) { s with heap := h', toks := tk }) :
    wpAny (model prog w) A (call (.ref 42) [.int x t, .int n u]) Q E s := by
  refine' callKC (binds := [(Str.ofString "a", .int x t), (Str.ofString "n", .int n u)]) [37] D hG (by simpa using h37) r.room ?ko ?kc (BindsTo.of_eq ?kb) ?kkind ?knd ?_ ?c2 ?c3 ?c4
  case ko => k_is
  case kc => k_is
  case kb => rfl
  case kkind => exact rfl
  case knd => decide +kernel
  case c2 => rfl
  case c3 => rfl
  case c4 => rfl
  intro g L' h₁ tk₁ cells Dg lt xt wt F old X T NC Y

  obtain ⟨o1, o2, o3, rfl, d1, d2, d3⟩ := CellsAre.three Y
  clear Y
  change o1.data = .cell none at d1
  change o2.data = .cell none at d2
  change o3.data = .cell (some (.int n u)) at d3
  change Fr g L' h₁ (fun y => if y = Str.ofString "a" then some (Value.int x t) else none) at F
  have hL : (136 : Nat) < L' := lt _ _ (hG _ _ (D.K 136 _ (by k_is)))
  obtain ⟨hd, dp, fr, gd, un⟩ := A
  obtain rfl : hd = none := r.hh
  have rd := r.dp
  have ru := r.un
  dsimp only at rd ru
  have hbits : Builtin.Int.intBits (x : Int) ≤ 2000 := intBits_le (by rw [Int.natAbs_natCast]; exact hx)
  obtain ⟨bl, hbl⟩ : ∃ bl, bl = Builtin.Int.intBits (x : Int) := ⟨_, rfl⟩
  rw [← hbl] at hk hbits
  have hkq : ((bl : Int) + (n : Int) - 1).fdiv (n : Int) = (k : Int) := by
    have e1 : (bl : Int) + (n : Int) - 1 = ((bl + n - 1 : Nat) : Int) := by omega
    rw [e1, Int.fdiv_eq_ediv_of_nonneg _ (Int.natCast_nonneg _), hk]; rfl
  change wpAny _ _ _ _ _ _
  k_fold
  obtain ⟨o37, ho37⟩ := hT.get
  have N0 : News g L' h₁ [(L' + 1 + 1 + 1, o1), (L' + 1 + 1, o2), (L' + 1, o3), (37, o37)] := fun q hq => by
    rcases List.mem_append.mp (show q ∈ [(L' + 1 + 1 + 1, o1), (L' + 1 + 1, o2), (L' + 1, o3)] ++ [(37, o37)] from hq) with hq | hq
    · exact NC q hq
    · rw [List.mem_singleton.mp hq]
      exact ⟨old _ _ ho37, Nat.ne_of_lt (Nat.lt_trans (show (37 : Nat) < 136 by decide) hL), wt _ (by simp)⟩
  clear NC
  iterate 7 (first | (k_unfold; (try dsimp only)) | (k_end; wrow_close) | walk1 | (dsimp only; walk1))
  refine newList_K (by assumption) (by assumption) ?_
  intro l0 h2 F2 N2 lt0
  clear F N0
  dsimp only
  iterate 13 (first | (k_unfold; (try dsimp only)) | (k_end; wrow_close) | walk1 | (dsimp only; walk1))
  rw [← hbl]
  iterate 1 (first | (k_unfold; (try dsimp only)) | (k_end; wrow_close) | walk1 | (dsimp only; walk1))
  rw [hkq]
  refine KMa.mul F2 N2 (News.isList N2 (.head _)) (by omega) (by omega) (by rw [Int.toNat_natCast, List.length_singleton, Nat.one_mul]; omega) rfl ?_
  rw [Int.toNat_natCast]
  intro S h3 F3 N3 ltS
  clear F2 N2
  dsimp only
  have lS0 : l0 < S := ltS _ (.head _)
  have lS1 : (L' + 1 + 1 + 1 : Nat) < S := ltS _ (.tail _ (.head _))
  have l01 : (L' + 1 + 1 + 1 : Nat) < l0 := lt0 _ (.head _)
  have ne21 : (L' + 1 + 1 + 1 : Nat) ≠ L' + 1 + 1 := Nat.succ_ne_self _
  have ne31 : (L' + 1 : Nat) ≠ L' + 1 + 1 := Nat.ne_of_lt (Nat.lt_succ_self _)
  refine storeX_C (c := L' + 1 + 1) (o := o2) F3 N3 rfl (UpdF.tail ?n1 (UpdF.tail ?n2 (UpdF.tail ne21 (UpdF.head ?n3)))) d2 ?_
  case n1 => exact Nat.ne_of_gt (Nat.lt_trans (Nat.lt_succ_self _) lS1)
  case n2 => exact Nat.ne_of_gt (Nat.lt_trans (Nat.lt_succ_self _) l01)
  case n3 =>
    intro q hq
    rcases List.mem_cons.mp hq with rfl | hq
    · exact ne31
    · rcases List.mem_cons.mp hq with rfl | hq
      · refine neN ?_; dsimp only; omega
      · cases hq
  intro h4 o2' F4 N4 d2'
  clear F3 N3
  try dsimp only at N4 F4 ⊢
  have N4' : News g L' h4 [(S, listOf (List.replicate k [Value.int 0 tk₁]).flatten.toArray 0), (l0, listOf #[Value.int 0 tk₁] 0), (L' + 1 + 1 + 1, o1), (L' + 1 + 1, o2'), (L' + 1, o3)] :=
    fun q hq => N4 q (List.mem_append_left [(37, o37)] hq)
  have h437 : h4.get? 37 = some o37 := (N4 _ (List.mem_append_right [(S, _), (l0, _), (_, o1), (_, o2'), (_, o3)] (.head _))).1
  clear N4
  have hT1 : Tab 37 39 4 qI h4 := by
    rcases hT with e | ⟨c', e, hc, c, o, vs, t, e1, e2, r⟩
    · rw [e] at ho37; cases ho37
      exact .inl h437
    · rw [e] at ho37; cases ho37
      refine .inr ⟨c', h437, hc, c, o, vs, t, e1, ?_, r⟩
      cases e1
      exact F4.keep _ _ (xt.1 _ _ (by simp only [List.mem_singleton]; exact fun q => by rw [q] at hc; exact absurd hc (by decide)) e2)
  iterate 1 (first | (k_unfold; (try dsimp only)) | (k_end; wrow_close) | walk1 | (dsimp only; walk1))
  refine' nestDef_K ?d0 ?k0 ?a0 ?_
  case d0 => exact rfl
  case k0 => exact rfl
  case a0 => exact rfl
  refine' nest_both F4 N4' T Dg.c1 rfl hT1 (Nat.lt_trans (by decide) hL) hL ?hc ?hne (wt _ (by simp)) ?hr ?cl ?_
  case hc =>
    intro q hq
    simp only [List.mem_cons, List.not_mem_nil, or_false] at hq
    rcases hq with rfl | rfl | rfl | rfl | rfl
    · exact Nat.lt_trans (ltN (by omega)) lS1
    · exact Nat.lt_trans (ltN (by omega)) l01
    all_goals (refine ltN ?_; dsimp only; omega)
  case hne => exact ⟨_, .head _⟩
  case hr =>
    intro c' e
    rcases hT with e' | ⟨c2, e', hc, c, o, vs, t, e1, e2, r⟩
    · rw [e'] at ho37; cases ho37
      rw [e] at h437; cases h437
    · rw [e'] at ho37; cases ho37
      rw [e] at h437; cases h437
      cases e1
      exact ⟨_, o, vs, t, rfl, xt.1 _ _ (by simp only [List.mem_singleton]; exact fun q => by rw [q] at hc; exact absurd hc (by decide)) e2, r⟩
  case cl => exact rfl
  intro f c' ctv dc extra h5 tk5 F5 N5 hrec hc' lf lx Lf hsm
  clear F4 N4'
  simp only [List.cons_append, List.nil_append] at N5
  have lf3 : (L' + 1 + 1 + 1 : Nat) < f := lf _ (.tail _ (.tail _ (.head _)))
  refine storeX_C (c := L' + 1 + 1 + 1) (o := o1) F5 N5 rfl (UpdF.tail ?n1 (UpdF.tail ?n2 (UpdF.tail ?n3 (UpdF.tail ?n4 (UpdF.head ?n5))))) d1 ?_
  case n1 => exact Nat.ne_of_gt lf3
  case n2 => refine neN ?_; dsimp only; omega
  case n3 => exact Nat.ne_of_gt lS1
  case n4 => exact Nat.ne_of_gt l01
  case n5 =>
    intro q hq
    rcases List.mem_cons.mp hq with rfl | hq
    · refine neN ?_; dsimp only; omega
    · rcases List.mem_cons.mp hq with rfl | hq
      · refine neN ?_; dsimp only; omega
      · exact Nat.ne_of_gt ((lx q hq).2 _ (.tail _ (.tail _ (.head _))))
  intro h6 o1' F6 N6 d1'
  clear F5 N5
  try dsimp only at F6 N6 ⊢
  have gf := (N6 _ (.head _)).1
  have gT := (N6 _ (.tail _ (.head _))).1
  have gS := N6 _ (.tail _ (.tail _ (.head _)))
  have gS1 : h6.get? S = some (listOf (List.replicate k [Value.int 0 tk₁]).flatten.toArray 0) := gS.1
  have g1 := (N6 _ (.tail _ (.tail _ (.tail _ (.tail _ (.head _)))))).1
  have g2 := (N6 _ (.tail _ (.tail _ (.tail _ (.tail _ (.tail _ (.head _))))))).1
  have g3 := (N6 _ (.tail _ (.tail _ (.tail _ (.tail _ (.tail _ (.tail _ (.head _)))))))).1
  have gx : ∀ q ∈ extra, h6.get? q.1 = some q.2 := fun q hq => (N6 q (.tail _ (.tail _ (.tail _ (.tail _ (.tail _ (.tail _ (.tail _ hq)))))))).1
  have gk6 := F6.keep
  have lfS : S < f := lf _ (.head _)
  have lxS : ∀ q ∈ extra, S ≠ q.1 := fun q hq => Nat.ne_of_lt ((lx q hq).2 _ (.head _))
  have k06 : ∀ b o, G.get? b = some o → h6.get? b = some o := fun b o e => F6.keep _ _ (xt.1 b o (by simp only [List.mem_singleton]; exact fun q => by rw [q, h37] at e; cases e) (hG b o e))
  have GS : ∀ b o, G.get? b = some o → b ≠ S := fun b o e q => by
    have := gS.2.2
    rw [← q, xt.1 b o (by simp only [List.mem_singleton]; exact fun q => by rw [q, h37] at e; cases e) (hG b o e)] at this
    cases this
  have dxl : ∀ q ∈ [L' + 1 + 1 + 1, L' + 1 + 1, L' + 1], q ≠ S := by
    intro q hq
    simp only [List.mem_cons, List.not_mem_nil, or_false] at hq
    rcases hq with rfl | rfl | rfl
    · exact Nat.ne_of_lt lS1
    · exact Nat.ne_of_lt (Nat.lt_trans (Nat.lt_succ_self _) lS1)
    · exact Nat.ne_of_lt (Nat.lt_trans (Nat.lt_trans (Nat.lt_succ_self _) (Nat.lt_succ_self _)) lS1)
  have inner : ∀ (m lo hi : Nat), hi - lo ≤ m → lo < hi → hi ≤ k → ∀ (x : Nat), x < 2 ^ (n * (hi - lo)) → x < 2 ^ 2000 → ∀ (ds : List Int) (vs : List Value) (e : Nat), ds.length = k → IntsAre vs ds →
      ∀ (A' : Around) (s' : Shared) (t1 t2 t3 : Tok) (Q' : Value → Shared → Prop) (E' : Value → Shared → Prop), Rm (m + 1) A' → (∀ b o, b ≠ S → h6.get? b = some o → s'.heap.get? b = some o) → s'.heap.get? S = some (listOf vs.toArray e) →
      (∀ vs' e' h' tk, Ext [S] s'.heap h' → h'.get? S = some (listOf vs'.toArray e') → IntsAre vs' (fillD ds lo hi (digN n x (hi - lo))) → Q' .none { s' with heap := h', toks := tk }) → wpAny (model prog w) A' (call (.ref f) [.int x t1, .int lo t2, .int hi t3]) Q' E' s' := by
    clear ret Q E qk ek N6 F6 hx hT hT1 h437 ho37
    intro m
    induction m with
    | zero => intro lo hi h1 h2; omega
    | succ m ih =>
      intro lo hi h1 h2 h3' x hx1 hx2 ds vs e hds hvs A' s' t1 t2 t3 Q' E' rA hs' hS' ret'
      have kk : ∀ b o, G.get? b = some o → s'.heap.get? b = some o := fun b o e => hs' _ _ (GS _ _ e) (k06 _ _ e)
      have rec' := hrec s'.heap (fun b o e => hs' _ _ (fun q => by rw [q, gS.2.2] at e; cases e) (gk6 b o e)) (fun q hq => hs' _ _ (Ne.symm (lxS q hq)) (gx q hq))
      refine' rawcall (binds := [(Str.ofString "x", .int x t1), (Str.ofString "L", .int lo t2), (Str.ofString "R", .int hi t3)]) [S] (D.T.nolimit.keeps kk) (hs' _ _ (Nat.ne_of_gt lfS) gf) rfl rec' rA.room (BindsTo.of_eq ?kb) ?kloc ?_ ?kcell ?c2 ?c3 ?c4
      case kb => rfl
      case kloc => exact locs rfl
      case kcell => decide
      case c2 => rfl
      case c3 => rfl
      case c4 => rfl
      intro M' h7 lt7 F7 old7
      change Fr (hideAll s'.heap [S]) M' h7 _ at F7
      have bS : (hideAll s'.heap [S]).get? S = none := hideAll_none _ (by simp)
      have kB : ∀ b o, b ≠ S → s'.heap.get? b = some o → (hideAll s'.heap [S]).get? b = some o := fun b o hb e => hideAll_get _ e (by simpa using hb)
      have bf := kB _ _ (Nat.ne_of_gt lfS) (hs' _ _ (Nat.ne_of_gt lfS) gf)
      have b1 := kB _ _ (dxl _ (.head _)) (hs' _ _ (dxl _ (.head _)) g1)
      have b2 := kB _ _ (dxl _ (.tail _ (.head _))) (hs' _ _ (dxl _ (.tail _ (.head _))) g2)
      have b3 := kB _ _ (dxl _ (.tail _ (.tail _ (.head _)))) (hs' _ _ (dxl _ (.tail _ (.tail _ (.head _)))) g3)
      have SM : S ≠ M' := Nat.ne_of_lt (lt7 _ _ hS')
      have N7 : News (hideAll s'.heap [S]) M' h7 [(S, listOf vs.toArray e)] := fun q hq => by
        rw [List.mem_singleton.mp hq]
        exact ⟨old7 _ _ hS', SM, bS⟩
      obtain ⟨B, hB⟩ : ∃ B, B = hideAll s'.heap [S] := ⟨_, rfl⟩
      rw [← hB] at F7 bS kB bf b1 b2 b3 N7
      clear gf g1 g2 g3 gS1 old7 rec' hB
      have vl : vs.length = ds.length := hvs.length
      simp only [List.reverse_cons, List.reverse_nil, List.nil_append, List.cons_append, List.length_cons, List.length_nil] at F7 ⊢
      obtain ⟨hd', dp', fr', gd', un'⟩ := A'
      obtain rfl : hd' = none := rA.hh
      have rd' := rA.dp
      have ru' := rA.un
      dsimp only at rd' ru'
      try dsimp only
      change wpAny _ _ _ _ _ _
      k_fold
      iterate 11 (first | (k_unfold; (try dsimp only)) | (k_end; wrow_close) | walk1 | (dsimp only; walk1))
      by_cases hlh : hi = lo + 1
      · subst hlh
        refine ite_pos (by simp only [beq_iff_eq]; omega) ?_
        iterate 6 (first | (k_unfold; (try dsimp only)) | (k_end; wrow_close) | walk1 | (dsimp only; walk1))
        refine ki_setAt (n := e) (N7 _ (.head _)).1 (Int.natCast_nonneg _) (by omega) (by rw [List.size_toArray]; omega) ?_
        rw [Int.toNat_natCast]
        have q := PySem.IsL.update (N7 (S, listOf vs.toArray e) (.head _)).1 (·.setIfInBounds lo (.int x t1))
        rw [List.setIfInBounds_toArray] at q
        have hsb : Heap.SameBut S h7 (h7.update S (Obj.mapSeq (·.setIfInBounds lo (.int x t1)))) := Heap.SameBut.update ..
        have F8 := fr_put F7 N7 hsb
        have N8 := news_put N7 hsb q (by simp)
        clear F7 N7
        try dsimp only at F8 N8 ⊢
        have hv8 := ints_set x t1 hvs lo
        have e1 : lo + 1 - lo = 1 := by omega
        rw [e1, Nat.mul_one] at hx1
        rw [set_fillD (by omega)] at hv8
        rw [e1, digN_one hx1] at ret'
        iterate 2 (first | (k_unfold; (try dsimp only)) | (k_end; wrow_close) | walk1 | (dsimp only; walk1))
        dsimp only
        exact ret' _ _ _ _ (fun b o hb e => F8.keep _ _ (kB b o (by simpa using hb) e)) (N8 _ (.head _)).1 hv8
      · refine ite_neg (by simp only [beq_iff_eq]; omega) ?_
        iterate 10 (first | (k_unfold; (try dsimp only)) | (k_end; wrow_close) | walk1 | (dsimp only; walk1))
        refine rshift_int (by decide) ?_
        rw [mid_eq]
        obtain ⟨mid, hm⟩ : ∃ mid, mid = (lo + hi) / 2 := ⟨_, rfl⟩
        rw [← hm]
        have hm1 : lo < mid := by omega
        have hm2 : mid < hi := by omega
        have es : ((mid : Int) - (lo : Int)) * (n : Int) = ((n * (mid - lo) : Nat) : Int) := by
          rw [Int.natCast_mul, Int.mul_comm, Int.natCast_sub (Nat.le_of_lt hm1)]
        have esb : n * (mid - lo) ≤ 600 * 40 := Nat.mul_le_mul hn (by omega)
        iterate 9 (first | (k_unfold; (try dsimp only)) | (k_end; wrow_close) | walk1 | (dsimp only; walk1))
        refine mul_int ?_ (.of_left (intBits_le_64 (by omega) (by omega)))
        rw [es]
        obtain ⟨sh, hsh⟩ : ∃ sh, sh = n * (mid - lo) := ⟨_, rfl⟩
        rw [← hsh] at esb ⊢
        iterate 6 (first | (k_unfold; (try dsimp only)) | (k_end; wrow_close) | walk1 | (dsimp only; walk1))
        refine rshift_int (Int.natCast_nonneg _) ?_
        rw [Int.toNat_natCast, shr_nat]
        iterate 8 (first | (k_unfold; (try dsimp only)) | (k_end; wrow_close) | walk1 | (dsimp only; walk1))
        refine lshift_int (Int.natCast_nonneg _) ?_ ?_
        · have hb1 : Builtin.Int.intBits ((x / 2 ^ sh : Nat) : Int) ≤ 2000 := intBits_le (by rw [Int.natAbs_natCast]; exact Nat.lt_of_le_of_lt (Nat.div_le_self _ _) hx2)
          have hb4 : (2 : Int) ^ 27 = 134217728 := by decide
          rw [hb4]
          omega
        rw [Int.toNat_natCast]
        skip
        walk1
        rw [xor_low]
        iterate 15 (first | (k_unfold; (try dsimp only)) | (k_end; wrow_close) | walk1 | (dsimp only; walk1))
        have x2 : x % 2 ^ sh < 2 ^ sh := Nat.mod_lt _ (Nat.two_pow_pos _)
        have eAll : n * (hi - lo) = sh + n * (hi - mid) := by
          rw [hsh, ← Nat.mul_add]; congr 1; omega
        rename Fr _ _ _ _ => F8
        rename News _ _ _ _ => N8
        refine ih lo mid (by omega) hm1 (by omega) (x % 2 ^ sh) (hsh ▸ x2) (Nat.lt_of_le_of_lt (Nat.mod_le _ _) hx2) ds vs e hds hvs _ _ _ _ _ _ _ (rA.deeper _) (fun b o hb e => F8.keep _ _ (kB b o hb (hs' b o hb e))) (N8 _ (.head _)).1 fun vs1 e1 h9 tk9 x9 hS9 hi9 => ?_
        have F9 := fr_ext F8 x9 (by simpa using Ne.symm SM) (by simpa using bS)
        have N9 : News B M' h9 [(S, listOf vs1.toArray e1)] := fun q hq => by
          rw [List.mem_singleton.mp hq]
          exact ⟨hS9, SM, bS⟩
        clear F8 N8
        try dsimp only at F9 N9 ⊢
        iterate 14 (first | (k_unfold; (try dsimp only)) | (k_end; wrow_close) | walk1 | (dsimp only; walk1))
        have x3 : x / 2 ^ sh < 2 ^ (n * (hi - mid)) := Nat.div_lt_of_lt_mul (by rw [← Nat.pow_add, ← eAll]; exact hx1)
        have fl := fillD_len (ds := ds) (d := digN n (x % 2 ^ sh) (mid - lo)) (Nat.le_of_lt hm1) (by omega) (digN_len _ _ _)
        refine ih mid hi (by omega) hm2 (by omega) (x / 2 ^ sh) x3 (Nat.lt_of_le_of_lt (Nat.div_le_self _ _) hx2) (fillD ds lo mid (digN n (x % 2 ^ sh) (mid - lo))) vs1 e1 (by rw [fl]; exact hds) hi9 _ _ _ _ _ _ _ (rA.deeper _) (fun b o hb e => F9.keep _ _ (kB b o hb (hs' b o hb e))) (N9 _ (.head _)).1 fun vs2 e2 h10 tk10 x10 hS10 hi10 => ?_
        have F10 := fr_ext F9 x10 (by simpa using Ne.symm SM) (by simpa using bS)
        clear F9 N9
        try dsimp only at F10 ⊢
        rw [fillD_two (Nat.le_of_lt hm1) (Nat.le_of_lt hm2) (by omega) (digN_len _ _ _) (digN_len _ _ _)] at hi10
        have e3 : hi - lo = (mid - lo) + (hi - mid) := by omega
        rw [e3, digN_append, ← hsh] at ret'
        iterate 2 (first | (k_unfold; (try dsimp only)) | (k_end; wrow_close) | walk1 | (dsimp only; walk1))
        exact ret' _ _ _ _ (fun b o hb e => F10.keep _ _ (kB b o (by simpa using hb) e)) hS10 hi10
  have hT3 : ∀ h', Ext [S] h6 h' → TabIn 37 39 4 qI h' := fun h' x => ⟨c', x _ _ (by simp only [List.mem_singleton]; exact Nat.ne_of_lt (Nat.lt_trans (Nat.lt_trans (show 37 < 136 by decide) hL) (Nat.lt_trans (ltN (by omega)) lS1))) gT, hc', hrec h' (fun b o e => x _ _ (by simp only [List.mem_singleton]; exact fun q => by rw [q, gS.2.2] at e; cases e) (gk6 b o e)) fun q hq => x _ _ (by simp only [List.mem_singleton]; exact Ne.symm (lxS q hq)) (gx q hq)⟩
  have hS3 : ∀ h', Ext [S] h6 h' → Same 37 39 4 s.heap h' := fun h' x c₀ e => by
    rw [ho37] at e; cases e
    have e2 := hsm c₀ h437
    subst e2
    exact x _ _ (by simp only [List.mem_singleton]; exact Nat.ne_of_lt (Nat.lt_trans (Nat.lt_trans (show 37 < 136 by decide) hL) (Nat.lt_trans (ltN (by omega)) lS1))) gT
  have fin : ∀ h', Ext [S] h6 h' → Ext [37] s.heap h' := fun h' x b o hb e => x b o (by simp only [List.mem_singleton]; exact fun q => by rw [q] at e; have := lt _ _ e; exact absurd this (Nat.not_lt.mpr (Nat.le_of_lt (Nat.lt_trans (ltN (by omega)) lS1)))) (gk6 b o (xt.1 b o (by simpa using hb) e))
  have sN : s.heap.get? S = none := by
    cases q : s.heap.get? S with
    | none => rfl
    | some o => exact absurd (lt _ _ q) (Nat.not_lt.mpr (Nat.le_of_lt (Nat.lt_trans (ltN (by omega)) lS1)))
  have lb := lt_bits x
  rw [← hbl] at lb
  have hSl : h6.IsList S (List.replicate k [Value.int 0 tk₁]).flatten.toArray := ⟨_, gS1, rfl, _, rfl⟩
  change wpAny _ _ _ _ _ _
  iterate 5 (first | (k_unfold; (try dsimp only)) | (k_end; wrow_close) | walk1 | (dsimp only; walk1))
  by_cases x0 : x = 0
  · subst x0
    refine ite_neg (by decide) ?_
    have b0 : bl = 0 := hbl
    obtain rfl : k = 0 := by rw [hk, b0]; exact Nat.div_eq_of_lt (by omega)
    iterate 4 (first | (k_unfold; (try dsimp only)) | (k_end; wrow_close) | walk1 | (dsimp only; walk1))
    dsimp only
    exact ret S _ 0 h6 _ (fin _ fun _ _ _ e => e) (hT3 _ fun _ _ _ e => e) (hS3 _ fun _ _ _ e => e) sN gS1 .nil
  · refine ite_pos (by simp [x0]) ?_
    have kpos := digits_pos hn1 hk lb x0
    have hfn : FnAt f h6 := ⟨_, _, _, _, gf⟩
    iterate 4 (first | (k_unfold; (try dsimp only)) | (k_end; wrow_close) | walk1 | (dsimp only; walk1))
    refine' callWith_F hfn ?_
    iterate 11 (first | (k_unfold; (try dsimp only)) | (k_end; wrow_close) | walk1 | (dsimp only; walk1))
    refine call_len_list hSl (by rw [List.size_toArray, zeros_len]; omega) ?_
    iterate 2 (first | (k_unfold; (try dsimp only)) | (k_end; wrow_close) | walk1 | (dsimp only; walk1))
    exact hfn
    skip
    rw [List.size_toArray, zeros_len]
    refine inner 41 0 k (by omega) kpos (Nat.le_refl _) x (Nat.lt_of_lt_of_le lb (Nat.pow_le_pow_right (by decide) (bits_digits hn1 hk))) hx (List.replicate k 0) _ _ List.length_replicate (ints_zero tk₁ k) _ _ _ _ _ _ _ ?rr (fun _ _ _ e => e) gS1 fun vs' e' h' tk xe hS hi => ?_
    case rr => exact Rm.less (Rm.deeper r _) (by omega)
    have F11 := fr_ext F6 xe (by simpa using Ne.symm gS.2.1) (by simpa using gS.2.2)
    have N11 : News g L' h' [(L' + 1 + 1, o2')] := fun q hq => by
      rw [List.mem_singleton.mp hq]
      exact ⟨xe _ _ (by simpa using dxl _ (.tail _ (.head _))) g2, (N6 _ (.tail _ (.tail _ (.tail _ (.tail _ (.tail _ (.head _))))))).2⟩
    have T11 := hT3 _ xe
    have E11 := fin _ xe
    have S11 := hS3 _ xe
    rw [fill_all] at hi
    have hi' : IntsAre vs' (digN n x k) := hi
    clear F6 N6 inner xe
    try dsimp only at F11 N11 T11 E11 S11 hS ⊢
    iterate 4 (first | (k_unfold; (try dsimp only)) | (k_end; wrow_close) | walk1 | (dsimp only; walk1))
    dsimp only
    exact ret S vs' e' h' _ E11 T11 S11 sN hS hi'

/-- the same, the table filled before -/
theorem i2dF_spec {x n k : Nat} {t u : Tok} {Q : Value → Shared → Prop} (D : Gd w p loose mean mg mb G) (hG : ∀ b o, G.get? b = some o → s.heap.get? b = some o) (h37 : G.get? 37 = none) (r : Rm 50 A)
    (hT : TabIn 37 39 4 qI s.heap) (hx : x < 2 ^ 2000) (hn1 : 1 ≤ n) (hn : n ≤ 600) (hk : k = (Builtin.Int.intBits (x : Int) + n - 1) / n) (hk40 : k ≤ 40)
    (ret : ∀ l vs e h' tk, Ext [] s.heap h' → s.heap.get? l = none → h'.get? l = some (listOf vs.toArray e) → IntsAre vs (digN n x k) → Q (.ref l) { s with heap := h', toks := tk }) :
    wpAny (model prog w) A (call (.ref 42) [.int x t, .int n u]) Q E s :=
  i2d_spec D hG h37 r hT.tab hx hn1 hn hk hk40 fun l vs e h' tk x _ y => ret l vs e h' tk (hT.stay x y)

end
end Mine

-- part D2i
namespace Mine
section
variable {prog : Program} {w : World} {A : Around} {E : Value → Shared → Prop} {s : Shared} {p : Program} {loose : List Str} {mean : ExcName → Option Value} {mg mb : Str → Option Value} {G : Heap}
abbrev qD : Str := Str.ofString "_digits2int" ++ ".<locals>." ++ Str.ofString "inner"
theorem d2i_spec {l : Addr} {n : Nat} {u : Tok} {vs : List Value} {ds : List Int} {e : Nat} {Q : Value → Shared → Prop} (D : Gd w p loose mean mg mb G) (hG : ∀ b o, G.get? b = some o → s.heap.get? b = some o) (h44 : G.get? 44 = none) (r : Rm 50 A)
    (hT : Tab 44 54 4 qD s.heap) (hl : s.heap.get? l = some (listOf vs.toArray e)) (hia : IntsAre vs ds) (hd : ∀ d ∈ ds, d.natAbs < 2 ^ 2000) (hlen : ds.length ≤ 40) (hn : n ≤ 600)
    (ret : ∀ t h' tk, Ext [44] s.heap h' → TabIn 44 54 4 qD h' → Same 44 54 4 s.heap h' → Q (.int (dv n ds) t) { s with heap := h', toks := tk }) :
    wpAny (model prog w) A (call (.ref 49) [.ref l, .int n u]) Q E s := by
  refine' callKC (binds := [(Str.ofString "digits", .ref l), (Str.ofString "n", .int n u)]) [44] D hG (by simpa using h44) r.room ?ko ?kc (BindsTo.of_eq ?kb) ?kkind ?knd ?_ ?c2 ?c3 ?c4
  case ko => k_is
  case kc => k_is
  case kb => rfl
  case kkind => exact rfl
  case knd => decide +kernel
  case c2 => rfl
  case c3 => rfl
  case c4 => rfl
  intro g L' h₁ tk₁ cells Dg lt xt wt F old X T NC Y

  obtain ⟨o1, o2, o3, rfl, d1, d2, d3⟩ := CellsAre.three Y
  clear Y
  change o1.data = .cell none at d1
  change o2.data = .cell (some (.int n u)) at d2
  change o3.data = .cell (some (.ref l)) at d3
  change Fr g L' h₁ (fun _ => none) at F
  have hL : (136 : Nat) < L' := lt _ _ (hG _ _ (D.K 136 _ (by k_is)))
  have hT1 : Tab 44 54 4 qD h₁ := by
    rcases hT with e | ⟨c', e, hc, c, o, vs, t, e1, e2, r⟩
    · exact .inl (old _ _ e)
    · exact .inr ⟨c', old _ _ e, hc, c, o, vs, t, e1, old _ _ e2, r⟩
  have hl0 : l < L' := lt _ _ hl
  have hl44 : l ≠ 44 := fun q => by
    obtain ⟨o, e⟩ := hT.get
    rw [q, e] at hl
    rcases hT with e' | ⟨c', e', _⟩ <;> (rw [e] at e'; cases e'; cases hl)
  have hlg : g.get? l = some (listOf vs.toArray e) := xt.1 _ _ (by simpa using hl44) hl
  obtain ⟨hd, dp, fr, gd, un⟩ := A
  obtain rfl : hd = none := r.hh
  have rd := r.dp
  have ru := r.un
  dsimp only at rd ru
  change wpAny _ _ _ _ _ _
  k_fold
  iterate 1 (first | (k_unfold; (try dsimp only)) | (k_end; wrow_close) | walk1 | (dsimp only; walk1))
  refine' nestDef_K ?d0 ?k0 ?a0 ?_
  case d0 => exact rfl
  case k0 => exact rfl
  case a0 => exact rfl
  refine' nest_both F NC T Dg.c2 rfl hT1 (Nat.lt_trans (by decide) hL) hL ?hc ?hne (wt _ (by simp)) ?hr ?cl ?_
  case hc => intro q hq; simp only [List.mem_cons, List.not_mem_nil, or_false] at hq; rcases hq with rfl | rfl | rfl <;> (refine ltN ?_; dsimp only; omega)
  case hne => exact ⟨_, .head _⟩
  case hr =>
    intro c' e
    rcases hT with e' | ⟨c2, e', hc, c, o, vs, t, e1, e2, r⟩
    · have := old _ _ e'
      rw [e] at this; cases this
    · have := old _ _ e'
      rw [e] at this; cases this
      cases e1
      exact ⟨c', o, vs, t, rfl, xt.1 _ _ (by simp only [List.mem_singleton]; exact fun q => by rw [q] at hc; exact absurd hc (by decide)) e2, r⟩
  case cl => exact rfl
  intro f c' ctv dc extra h2 tk2 F2 N2 hrec hc' lf lx Lf hsm
  simp only [List.cons_append, List.nil_append] at N2
  have lf3 : (L' + 1 + 1 + 1 : Nat) < f := lf _ (.head _)
  refine storeX_C (c := L' + 1 + 1 + 1) (o := o1) F2 N2 rfl (UpdF.tail ?n1 (UpdF.tail ?n2 (UpdF.head ?n3))) d1 ?_
  case n1 => exact Nat.ne_of_gt lf3
  case n2 => refine neN ?_; dsimp only; omega
  case n3 =>
    intro q hq
    rcases List.mem_cons.mp hq with rfl | hq
    · refine neN ?_; dsimp only; omega
    · rcases List.mem_cons.mp hq with rfl | hq
      · refine neN ?_; dsimp only; omega
      · exact Nat.ne_of_gt ((lx q hq).2 _ (.head _))
  intro h3 o1' F3 N3 d1'
  clear F2 N2
  have gf := (N3 _ (.head _)).1
  have gT := (N3 _ (.tail _ (.head _))).1
  have g1 := (N3 _ (.tail _ (.tail _ (.head _)))).1
  have g2 := (N3 _ (.tail _ (.tail _ (.tail _ (.head _))))).1
  have g3 := (N3 _ (.tail _ (.tail _ (.tail _ (.tail _ (.head _)))))).1
  have gl := F3.keep _ _ hlg
  have gx : ∀ q ∈ extra, h3.get? q.1 = some q.2 := fun q hq => (N3 q (.tail _ (.tail _ (.tail _ (.tail _ (.tail _ hq)))))).1
  have gc := hrec h3 F3.keep gx
  have dvb : ∀ lo hi : Nat, (dv n ((ds.drop lo).take (hi - lo))).natAbs < 2 ^ (2000 + (n + 1) * 40) := fun lo hi => by
    refine Nat.lt_of_lt_of_le (dv_bound fun d hd' => hd d (List.mem_of_mem_drop (List.mem_of_mem_take hd'))) (Nat.pow_le_pow_right (by decide) (Nat.add_le_add_left (Nat.mul_le_mul_left _ ?_) _))
    rw [List.length_take, List.length_drop]; omega
  have k03 : ∀ b o, G.get? b = some o → h3.get? b = some o := fun b o e => F3.keep _ _ (xt.1 b o (by simp only [List.mem_singleton]; exact fun q => by rw [q, h44] at e; cases e) (hG b o e))
  have inner : ∀ (k lo hi : Nat), hi - lo ≤ k → lo < hi → hi ≤ ds.length → ∀ (A' : Around) (s' : Shared) (t1 t2 : Tok) (Q' : Value → Shared → Prop) (E' : Value → Shared → Prop), Rm (k + 1) A' → (∀ b o, h3.get? b = some o → s'.heap.get? b = some o) →
      (∀ t h' tk, Ext [] s'.heap h' → Q' (.int (dv n ((ds.drop lo).take (hi - lo))) t) { s' with heap := h', toks := tk }) → wpAny (model prog w) A' (call (.ref f) [.int lo t1, .int hi t2]) Q' E' s' := by
    clear ret Q E qk ek F NC F3 N3
    intro k
    induction k with
    | zero => intro lo hi h1 h2; omega
    | succ k ih =>
      intro lo hi h1 h2 h3' A' s' t1 t2 Q' E' rA hs' ret'
      have kk : ∀ b o, G.get? b = some o → s'.heap.get? b = some o := fun b o e => hs' _ _ (k03 _ _ e)
      refine' rawcall (binds := [(Str.ofString "L", .int lo t1), (Str.ofString "R", .int hi t2)]) [] (D.T.nolimit.keeps kk) (hs' _ _ gf) rfl ?kc rA.room (BindsTo.of_eq ?kb) ?kloc ?_ ?kcell ?c2 ?c3 ?c4
      case kc => exact gc.keeps hs'
      case kb => rfl
      case kloc => exact locs rfl
      case kcell => decide
      case c2 => rfl
      case c3 => rfl
      case c4 => rfl
      intro M' h4 lt4 F4 old4
      change Fr s'.heap M' h4 _ at F4
      have bf := hs' _ _ gf
      have b1 := hs' _ _ g1
      have b2 := hs' _ _ g2
      have b3 := hs' _ _ g3
      have bl : s'.heap.IsList l vs.toArray := ⟨_, hs' _ _ gl, rfl, _, rfl⟩
      clear gf g1 g2 g3 gl
      simp only [List.reverse_cons, List.reverse_nil, List.nil_append, List.cons_append, List.length_cons, List.length_nil] at F4 ⊢
      have N4 : News s'.heap M' h4 [] := News.nil
      obtain ⟨hd', dp', fr', gd', un'⟩ := A'
      obtain rfl : hd' = none := rA.hh
      have rd' := rA.dp
      have ru' := rA.un
      dsimp only at rd' ru'
      try dsimp only
      change wpAny _ _ _ _ _ _
      k_fold
      iterate 11 (first | (k_unfold; (try dsimp only)) | (k_end; wrow_close) | walk1 | (dsimp only; walk1))
      by_cases hlh : hi = lo + 1
      · subst hlh
        refine ite_pos (by simp only [beq_iff_eq]; omega) ?_
        iterate 6 (first | (k_unfold; (try dsimp only)) | (k_end; wrow_close) | walk1 | (dsimp only; walk1))
        rename Fr _ _ _ _ => F4
        obtain ⟨tl, hvl⟩ := hia.get lo ds[lo] (List.getElem?_eq_getElem (by omega))
        have bl' := bl.at fun o e => F4.keep l o e
        refine tail_any bl'.typeIs slot_list_getitem.lookup (wpAny_getItem_list bl' (Int.natCast_nonneg _) (by omega) (by simpa using hvl) ?_) (by with_unfolding_all rfl)
        rw [dv_one (by omega)] at ret'
        exact ret' tl h4 _ (fun b o _ e => F4.keep b o e)
      · refine ite_neg (by simp only [beq_iff_eq]; omega) ?_
        iterate 10 (first | (k_unfold; (try dsimp only)) | (k_end; wrow_close) | walk1 | (dsimp only; walk1))
        refine rshift_int (by decide) ?_
        rw [mid_eq]
        obtain ⟨mid, hm⟩ : ∃ mid, mid = (lo + hi) / 2 := ⟨_, rfl⟩
        rw [← hm]
        have hm1 : lo < mid := by omega
        have hm2 : mid < hi := by omega
        have es : ((mid : Int) - (lo : Int)) * (n : Int) = ((n * (mid - lo) : Nat) : Int) := by
          rw [Int.natCast_mul, Int.mul_comm, Int.natCast_sub (Nat.le_of_lt hm1)]
        have esb : n * (mid - lo) ≤ 600 * 40 := Nat.mul_le_mul hn (by omega)
        iterate 9 (first | (k_unfold; (try dsimp only)) | (k_end; wrow_close) | walk1 | (dsimp only; walk1))
        refine mul_int ?_ (.of_left (intBits_le_64 (by omega) (by omega)))
        rw [es]
        iterate 15 (first | (k_unfold; (try dsimp only)) | (k_end; wrow_close) | walk1 | (dsimp only; walk1))
        rename Fr _ _ _ _ => F5
        rename News _ _ _ _ => N5
        refine ih mid hi (by omega) hm2 (by omega) _ _ _ _ _ _ (rA.deeper _) (fun b o e => F5.keep _ _ (hs' _ _ e)) fun t6 h6 tk6 x6 => ?_
        have F6 := fr_ext0 F5 x6
        have N6 := news_ext0 N5 x6
        clear F5 N5
        try dsimp only at F6 N6 ⊢
        iterate 1 (first | (k_unfold; (try dsimp only)) | (k_end; wrow_close) | walk1 | (dsimp only; walk1))
        refine lshift_int (Int.natCast_nonneg _) ?_ ?_
        · have hb1 := intBits_le (dvb mid hi)
          have hb2 : (n + 1) * 40 ≤ 601 * 40 := Nat.mul_le_mul_right _ (by omega)
          have hb3 : Builtin.Int.intBits (dv n (List.take (hi - mid) (List.drop mid ds))) ≤ 26040 := Nat.le_trans hb1 (by omega)
          have hb4 : (2 : Int) ^ 27 = 134217728 := by decide
          rw [hb4]
          omega
        rw [Int.toNat_natCast]
        iterate 10 (first | (k_unfold; (try dsimp only)) | (k_end; wrow_close) | walk1 | (dsimp only; walk1))
        refine ih lo mid (by omega) hm1 (by omega) _ _ _ _ _ _ (rA.deeper _) (fun b o e => F6.keep _ _ (hs' _ _ e)) fun t7 h7 tk7 x7 => ?_
        have F7 := fr_ext0 F6 x7
        have N7 := news_ext0 N6 x7
        clear F6 N6
        try dsimp only at F7 N7 ⊢
        iterate 2 (first | (k_unfold; (try dsimp only)) | (k_end; wrow_close) | walk1 | (dsimp only; walk1))
        rw [← dv_split (Nat.le_of_lt hm1) (Nat.le_of_lt hm2) h3'] at ret'
        exact ret' _ h7 _ (fun b o _ e => F7.keep b o e)
  try dsimp only
  change wpAny _ _ _ _ _ _
  have bl : h3.IsList l vs.toArray := ⟨_, gl, rfl, _, rfl⟩
  have vlen : vs.length = ds.length := hia.length
  have hS3 : ∀ h', Ext [] h3 h' → Same 44 54 4 s.heap h' := fun h' x c₀ e => by
    have e2 := hsm c₀ (old _ _ e)
    subst e2
    exact x _ _ (by simp) gT
  have hT3 : ∀ h', Ext [] h3 h' → TabIn 44 54 4 qD h' := fun h' x => ⟨c', x _ _ (by simp) gT, hc', hrec h' (fun b o e => x _ _ (by simp) (F3.keep b o e)) fun q hq => x _ _ (by simp) (gx q hq)⟩
  have fin : ∀ h', Ext [] h3 h' → Ext [44] s.heap h' := fun h' x b o hb e => x b o (by simp) (F3.keep b o (xt.1 b o (by simpa using hb) e))
  iterate 5 (first | (k_unfold; (try dsimp only)) | (k_end; wrow_close) | walk1 | (dsimp only; walk1))
  refine wpAny_truthy_list (items := vs.toArray) bl (by rw [List.size_toArray]; omega) ?_
  rcases ds with _ | ⟨d₀, dr⟩
  · obtain rfl : vs = [] := List.eq_nil_of_length_eq_zero vlen
    try simp only [Array.isEmpty, List.size_toArray, List.length_nil, decide_true, Bool.not_true]
    iterate 3 (first | (k_unfold; (try dsimp only)) | (k_end; wrow_close) | walk1 | (dsimp only; walk1))
    exact ret _ h3 _ (fin _ fun _ _ _ e => e) (hT3 _ fun _ _ _ e => e) (hS3 _ fun _ _ _ e => e)
  · obtain ⟨v₀, vr, rfl⟩ : ∃ v₀ vr, vs = v₀ :: vr := by
      cases vs with
      | nil => cases vlen
      | cons a b => exact ⟨a, b, rfl⟩
    have e0 : (Array.isEmpty (v₀ :: vr).toArray) = false := by simp [Array.isEmpty]
    simp only [e0, Bool.not_false]
    have hfn : FnAt f h3 := ⟨_, _, _, _, gf⟩
    iterate 3 (first | (k_unfold; (try dsimp only)) | (k_end; wrow_close) | walk1 | (dsimp only; walk1))
    refine' callWith_F hfn ?_
    iterate 9 (first | (k_unfold; (try dsimp only)) | (k_end; wrow_close) | walk1 | (dsimp only; walk1))
    refine call_len_list bl (by rw [List.size_toArray]; omega) ?_
    iterate 2 (first | (k_unfold; (try dsimp only)) | (k_end; wrow_close) | walk1 | (dsimp only; walk1))
    exact hfn
    skip
    rw [List.size_toArray, vlen]
    refine inner 41 0 (d₀ :: dr).length (by omega) (by simp) (Nat.le_refl _) _ _ _ _ _ _ ?rr (fun _ _ e => e) fun t h' tk x => ?_
    case rr => exact Rm.less (Rm.deeper r _) (by omega)
    iterate 1 (first | (k_unfold; (try dsimp only)) | (k_end; wrow_close) | walk1 | (dsimp only; walk1))
    have x' : Ext [] h3 h' := x
    have ed : List.take ((d₀ :: dr).length - 0) (List.drop 0 (d₀ :: dr)) = d₀ :: dr := by simp
    rw [ed]
    exact ret _ h' _ (fin _ x') (hT3 _ x') (hS3 _ x')

/-- the same, the table filled before -/
theorem d2iF_spec {l : Addr} {n : Nat} {u : Tok} {vs : List Value} {ds : List Int} {e : Nat} {Q : Value → Shared → Prop} (D : Gd w p loose mean mg mb G) (hG : ∀ b o, G.get? b = some o → s.heap.get? b = some o) (h44 : G.get? 44 = none) (r : Rm 50 A)
    (hT : TabIn 44 54 4 qD s.heap) (hl : s.heap.get? l = some (listOf vs.toArray e)) (hia : IntsAre vs ds) (hd : ∀ d ∈ ds, d.natAbs < 2 ^ 2000) (hlen : ds.length ≤ 40) (hn : n ≤ 600)
    (ret : ∀ t h' tk, Ext [] s.heap h' → Q (.int (dv n ds) t) { s with heap := h', toks := tk }) :
    wpAny (model prog w) A (call (.ref 49) [.ref l, .int n u]) Q E s :=
  d2i_spec D hG h44 r hT.tab hl hia hd hlen hn fun t h' tk x _ y => ret t h' tk (hT.stay x y)

end
end Mine
end

-- part LoopR
namespace Mine
theorem ints_get {vs : List Value} {ns : List Int} (h : IntsAre vs ns) {i : Nat} {v : Value} (e : vs[i]? = some v) : ∃ n t, v = .int n t ∧ ns[i]? = some n := by
  have hi : i < vs.length := (List.getElem?_eq_some_iff.mp e).1
  have hj : i < ns.length := by rw [← h.length]; exact hi
  obtain ⟨t, ht⟩ := h.get i ns[i] (List.getElem?_eq_getElem hj)
  rw [e] at ht
  exact ⟨_, t, Option.some.inj ht, List.getElem?_eq_getElem _⟩
theorem ints_rev : ∀ {vs : List Value} {ns : List Int}, IntsAre vs ns → IntsAre vs.reverse ns.reverse
  | _, _, .nil => .nil
  | _, _, .cons n t r => by
    rw [List.reverse_cons, List.reverse_cons]
    exact (ints_rev r).append (.cons n t .nil)
section
variable {prog : Program} {w : World} {A : Around} {E : Value → Shared → Prop} {s : Shared} {env : Env} {h₀ : Heap} {x : Str} {body : List Stmt} {Q : Flow → Shared → Prop}
/-- a for over a list, from its end, by what holds of the frame and of the ledger -/
theorem loop_rev {I l : Addr} {vs : List Value} {ns : List Int} {m₀ : Str → Option Value} {news : List (Addr × Obj)} (J : Nat → (Str → Option Value) → List (Addr × Obj) → Prop)
    (hh : A.handled = none) (hI : s.heap.get? I = some (revObj l ((vs.length : Int) - 1))) (hI0 : h₀.get? I = none) (hIL : I ≠ env.locals) (hlL : l ≠ env.locals) (hne : l ≠ I) (hl : s.heap.IsList l vs.toArray) (hi : IntsAre vs ns)
    (F : Fr h₀ env.locals s.heap m₀) (N : News h₀ env.locals s.heap news) (ho : ∀ p ∈ news, p.1 ≠ I ∧ p.1 ≠ l) (hj : J 0 m₀ news)
    (turn : ∀ i n t m₁ news₁ h tk own, i < ns.length → ns.reverse[i]? = some n → OwnOff own (news.map (·.1)) → J i m₁ news₁ → Fr h₀ env.locals h (fun y => if y = x then some (.int n t) else m₁ y) → News h₀ env.locals h (news₁ ++ own) →
      wpAny (model prog w) A (execs body env) (InvPostN h₀ env.locals (J (i + 1)) own (news.map (·.1)) { s with heap := h, toks := tk } Q) E { s with heap := h, toks := tk })
    (done : ∀ m₁ news₁ h tk, J ns.length m₁ news₁ → Fr h₀ env.locals h m₁ → News h₀ env.locals h news₁ → Q .next { s with heap := h, toks := tk }) :
    wpAny (model prog w) A (pyIter (.ref I)) (fun it s₂ => LoopAtV prog w A h₀ env x body Q E it s₂) E s := by
  have hit : s.heap.IsRevIter I l ((vs.length : Int) - 1) := ⟨_, hI, rfl, rfl⟩
  have hlen : vs.toArray.size = vs.length := by simp
  have hnl : vs.length = ns.length := hi.length
  refine wpAny_pyIter_revIter hit ?_
  have W := Walks.listRev (prog := prog) (w := w) hh I l hne vs.toArray
  rw [hlen] at W
  refine loop_invN J W ?_ ?_ ?_ ?_ ⟨Nat.zero_le _, ?_, hl⟩ F N hj ?_ ?_
  · intro hm
    rcases List.mem_cons.mp hm with e | hm
    · exact hIL e.symm
    · exact hlL (List.mem_singleton.mp hm).symm
  · exact fun b hb => by rw [List.mem_singleton.mp hb]; exact hI0
  · exact fun p hp hI => (ho p hp).1 (List.mem_singleton.mp hI)
  · intro p hp hI
    rcases List.mem_cons.mp hI with e | hI
    · exact (ho p hp).1 e
    · exact (ho p hp).2 (List.mem_singleton.mp hI)
  · have e : (vs.length : Int) - 1 - ((0 : Nat) : Int) = (vs.length : Int) - 1 := by omega
    rw [e]; exact hit
  · rintro i v m₁ nx h tk own hin hP _ hoff hJ F₁ N₁
    have hP' : vs[vs.length - 1 - i]? = some v := by simpa using hP
    obtain ⟨n, t, rfl, hn⟩ := ints_get hi hP'
    rw [hnl] at hin hn
    exact turn i n t m₁ nx h tk own hin (by rw [List.getElem?_reverse hin]; exact hn) hoff hJ F₁ N₁
  · rintro m₁ nx h tk hJ F₁ N₁
    rw [hnl] at hJ
    exact done m₁ nx h tk hJ F₁ N₁
end
/-- one step of the long division, digit by digit -/
def qrStep (b n : Nat) (st : List Int × Nat) (d : Int) : List Int × Nat := (st.1 ++ [(((st.2 * 2 ^ n + d.toNat) / b : Nat) : Int)], (st.2 * 2 ^ n + d.toNat) % b)
def qrF (b n : Nat) (ds : List Int) : List Int × Nat := ds.foldl (qrStep b n) ([], 0)
theorem qrF_snoc (b n : Nat) (ds : List Int) (d : Int) : qrF b n (ds ++ [d]) = qrStep b n (qrF b n ds) d := by
  unfold qrF; rw [List.foldl_append]; rfl
theorem digN_dig {n : Nat} : ∀ {k x : Nat}, ∀ d ∈ digN n x k, 0 ≤ d ∧ d.toNat < 2 ^ n
  | 0, _, d, h => by cases h
  | k + 1, x, d, h => by
    rw [digN] at h
    rcases List.mem_cons.mp h with rfl | h
    · exact ⟨Int.natCast_nonneg _, by rw [Int.toNat_natCast]; exact Nat.mod_lt _ (Nat.two_pow_pos n)⟩
    · exact digN_dig d h
/-- the division's state stays in its bounds -/
theorem qr_ok {b n : Nat} (hb : 0 < b) (hbn : b ≤ 2 ^ n) (hn : n ≤ 600) : ∀ {ds : List Int}, (∀ d ∈ ds, 0 ≤ d ∧ d.toNat < 2 ^ n) → ∀ i, i ≤ ds.length → ∀ z, z = qrF b n (ds.take i) → z.2 < b ∧ z.1.length = i ∧ ∀ q ∈ z.1, q.natAbs < 2 ^ 2000 := by
  intro ds hd i
  induction i with
  | zero => intro _ z hz; subst hz; exact ⟨hb, rfl, fun q hq => by cases hq⟩
  | succ i ih =>
    intro hi z hz
    obtain ⟨h1, h2, h3⟩ := ih (by omega) _ rfl
    have e : ds.take (i + 1) = ds.take i ++ [ds[i]] := by rw [List.take_add_one, List.getElem?_eq_getElem (by omega)]; rfl
    rw [e, qrF_snoc] at hz
    subst hz
    refine ⟨Nat.mod_lt _ hb, by rw [qrStep, List.length_append, h2]; rfl, fun q hq => ?_⟩
    rw [qrStep] at hq
    rcases List.mem_append.mp hq with hq | hq
    · exact h3 q hq
    · rw [List.mem_singleton.mp hq, Int.natAbs_natCast]
      have d2 := (hd _ (List.getElem_mem (by omega : i < ds.length))).2
      refine Nat.lt_of_le_of_lt (Nat.div_le_self _ _) ?_
      have m1 : (qrF b n (ds.take i)).2 * 2 ^ n ≤ (2 ^ n - 1) * 2 ^ n := Nat.mul_le_mul_right _ (by omega)
      have m2 : (2 ^ n - 1) * 2 ^ n + 2 ^ n = 2 ^ (n + n) := by
        have : 0 < 2 ^ n := Nat.two_pow_pos n
        rw [← Nat.succ_mul, Nat.pow_add]
        congr 1; omega
      have m3 : 2 ^ (n + n) ≤ 2 ^ 2000 := Nat.pow_le_pow_right (by decide) (by omega)
      omega
theorem shl_nat (r n : Nat) : (r : Int) * 2 ^ n = ((r * 2 ^ n : Nat) : Int) := by rw [Int.natCast_mul, Int.natCast_pow]; rfl
theorem fdiv_nat (a b : Nat) : (a : Int).fdiv (b : Int) = ((a / b : Nat) : Int) := by rw [Int.fdiv_eq_ediv_of_nonneg _ (Int.natCast_nonneg _)]; rfl
theorem fmod_nat (a b : Nat) : (a : Int).fmod (b : Int) = ((a % b : Nat) : Int) := by rw [Int.fmod_eq_emod_of_nonneg _ (Int.natCast_nonneg _)]; rfl
end Mine

-- part Dp
namespace Mine
section
variable {prog : Program} {w : World} {A : Around} {E : Value → Shared → Prop} {s : Shared} {p : Program} {loose : List Str} {mean : ExcName → Option Value} {mg mb : Str → Option Value} {G : Heap}
theorem dp_spec {a b n k : Nat} {t u : Tok} {Q : Value → Shared → Prop} (D : Gd w p loose mean mg mb G) (hG : ∀ b o, G.get? b = some o → s.heap.get? b = some o) (h37 : G.get? 37 = none) (h44 : G.get? 44 = none) (r : Rm 52 A)
    (hT1 : TabIn 37 39 4 qI s.heap) (hT2 : TabIn 44 54 4 qD s.heap) (ha : a < 2 ^ 2000) (hb : 0 < b) (hn : n = Builtin.Int.intBits (b : Int)) (hn2 : n ≤ 600) (hk : k = (Builtin.Int.intBits (a : Int) + n - 1) / n) (hk40 : k ≤ 40)
    (ret : ∀ T q t1 t2 h' tk, Ext [] s.heap h' → s.heap.get? T = none → h'.get? T = some { cls := .type "tuple", data := .seq #[.int q t1, .int (qrF b n (digN n a k).reverse).2 t2] } → Q (.ref T) { s with heap := h', toks := tk }) :
    wpAny (model prog w) A (call (.ref 56) [.int a t, .int b u]) Q E s := by
  have hbn := lt_bits b
  rw [← hn] at hbn
  have hn1 : 1 ≤ n := by
    rcases Nat.eq_zero_or_pos n with e | e
    · rw [e] at hbn; omega
    · exact e
  have r50 : Rm 51 A := r.less (by omega)
  obtain ⟨hd, dp, fr, gd, un⟩ := A
  obtain rfl : hd = none := r.hh
  have rd := r.dp
  have ru := r.un
  dsimp only at rd ru
  refine' callK (binds := [(Str.ofString "a", .int a t), (Str.ofString "b", .int b u)]) [] D hG (by simp) r.room ?ko ?kc (BindsTo.of_eq ?kb) ?kloc ?_ ?kcell ?c2 ?c3 ?c4
  case ko => k_is
  case kc => k_is
  case kb => rfl
  case kloc => exact locs rfl
  case kcell => decide
  case c2 => rfl
  case c3 => rfl
  case c4 => rfl
  intro g L' h₁ Dg lt xt wt F old X T
  simp only [List.reverse_cons, List.reverse_nil, List.nil_append, List.cons_append, List.length_cons, List.length_nil] at F ⊢
  have N : News g L' h₁ [] := News.nil
  try dsimp only
  change wpAny _ _ _ _ _ _
  k_fold

  have Gg : ∀ b o, G.get? b = some o → g.get? b = some o := fun b o e => xt.1 b o (by simp) (hG b o e)
  have T37 : TabIn 37 39 4 qI g := hT1.ext xt.1 (by simp) (by simp)
  have T44 : TabIn 44 54 4 qD g := hT2.ext xt.1 (by simp) (by simp)
  iterate 19 (first | (k_unfold; (try dsimp only)) | (k_end; wrow_close) | walk1 | (dsimp only; walk1))
  rw [← hn]
  rename Fr _ _ _ _ => F1
  rename News _ _ _ _ => N1
  refine i2dF_spec D (fun b o e => F1.keep b o (Gg b o e)) h37 (r50.deeper _ |>.less (by omega)) (TabIn.ext (W := []) T37 (fun b o _ e => F1.keep b o e) (by simp) (by simp)) ha hn1 hn2 hk hk40 fun l vs e h2 tk2 x2 f2 hl2 hi2 => ?_
  have N2 := news_add (news_ext0 N1 x2) F1 hl2 f2
  have F2 := fr_ext0 F1 x2
  clear N1 F1
  try dsimp only at F2 N2 ⊢
  iterate 10 (first | (k_unfold; (try dsimp only)) | (k_end; wrow_close) | walk1 | (dsimp only; walk1))
  rename Fr _ _ _ _ => F3
  rename News _ _ _ _ => N3
  refine newList_K F3 N3 ?_
  intro qd h4 F4 N4 lt4
  clear N3 F3
  try dsimp only at F4 N4 ⊢
  iterate 10 (first | (k_unfold; (try dsimp only)) | (k_end; wrow_close) | walk1 | (dsimp only; walk1))
  rename Fr _ _ _ _ => F5
  rename News _ _ _ _ => N5
  refine krv_reversed F5 N5 (News.isList N5 (.tail _ (.head _))) fun I h6 F6 N6 lt6 => ?_
  clear F5 N5
  try dsimp only at F6 N6 ⊢
  skip
  rw [← hn] at F6
  obtain ⟨tn, htn⟩ : ∃ tn, tn = s.toks + (0 + 1 + 1) := ⟨_, rfl⟩
  rw [← htn] at F6
  have nI : ∀ q ∈ [(qd, listOf #[] 0)], q.1 ≠ I ∧ q.1 ≠ l := fun q hq => by
    rw [List.mem_singleton.mp hq]
    exact ⟨Nat.ne_of_lt (lt6 _ (.head _)), Nat.ne_of_gt (lt4 _ (.head _))⟩
  have NQ : News g L' h6 [(qd, listOf #[] 0)] := fun q hq => N6 q (by rw [List.mem_singleton.mp hq]; exact .tail _ (.head _))
  have dd : ∀ d ∈ (digN n a k).reverse, 0 ≤ d ∧ d.toNat < 2 ^ n := fun d hd => digN_dig d (List.mem_reverse.mp hd)
  have dl : (digN n a k).reverse.length = k := by rw [List.length_reverse, digN_len]
  have ok := qr_ok hb (Nat.le_of_lt hbn) hn2 dd
  obtain ⟨rs, hrs⟩ : ∃ rs, rs = (digN n a k).reverse := ⟨_, rfl⟩
  rw [← hrs] at ok dl dd ret
  refine loop_rev (fun i m nx => ∃ its c tr, nx = [(qd, listOf (List.toArray its) c)] ∧ IntsAre its (qrF b n (rs.take i)).1 ∧ m (Str.ofString "r") = some (.int (qrF b n (rs.take i)).2 tr) ∧
    ∀ z, z ≠ Str.ofString "a_digit" → z ≠ Str.ofString "q_digit" → z ≠ Str.ofString "r" → m z = (fun y => if y = Str.ofString "q_digits" then some (Value.ref qd)
      else if y = Str.ofString "a_digits" then some (Value.ref l) else if y = Str.ofString "n" then some (Value.int n tn) else List.lookup y [(Str.ofString "b", Value.int b u), (Str.ofString "a", Value.int a t)]) z)
    rfl (N6 _ (.head _)).1 (N6 _ (.head _)).2.2 (N6 _ (.head _)).2.1 (N6 _ (.tail _ (.tail _ (.head _)))).2.1 (Nat.ne_of_lt (lt6 _ (.tail _ (.head _)))) (News.isList N6 (.tail _ (.tail _ (.head _)))) hi2 F6 NQ nI ⟨[], 0, _, rfl, .nil, rfl, ?_⟩ ?_ ?_
  · intro z h1 h2 h3
    simp only [if_neg h3]
  · intro i d td m₁ nx h tk own hi hd off ⟨its, c, tr, hnx, hia, hmr, hm⟩ F N
    rw [digN_len] at hi
    rw [← hrs] at hd
    have hd' : d ∈ rs := List.mem_of_getElem? hd
    obtain ⟨d0, dlt⟩ := dd d hd'
    obtain ⟨ok1, ok2, _⟩ := ok i (by omega) _ rfl
    have et : rs.take (i + 1) = rs.take i ++ [d] := by rw [List.take_add_one, hd]; rfl
    obtain ⟨z, hz⟩ : ∃ z, z = qrF b n (rs.take i) := ⟨_, rfl⟩
    rw [← hz] at ok1 ok2 hia hmr
    obtain ⟨e, rfl⟩ := Int.eq_ofNat_of_zero_le d0
    rw [Int.toNat_natCast] at dlt
    replace F := fr_eq (m' := fun y => if y = Str.ofString "a_digit" then some (Value.int e td) else if y = Str.ofString "r" then some (.int z.2 tr) else if y = Str.ofString "q_digit" then m₁ (Str.ofString "q_digit") else if y = Str.ofString "q_digits" then some (Value.ref qd)
      else if y = Str.ofString "a_digits" then some (Value.ref l) else if y = Str.ofString "n" then some (Value.int n tn) else List.lookup y [(Str.ofString "b", Value.int b u), (Str.ofString "a", Value.int a t)]) F (by
        funext y
        by_cases h1 : y = Str.ofString "a_digit"
        · rw [if_pos h1, if_pos h1]
        · rw [if_neg h1, if_neg h1]
          by_cases h2 : y = Str.ofString "r"
          · rw [if_pos h2, h2, hmr]
          · rw [if_neg h2]
            by_cases h3 : y = Str.ofString "q_digit"
            · rw [if_pos h3, h3]
            · rw [if_neg h3, hm y h1 h3 h2])
    obtain ⟨uq, huq⟩ : ∃ uq, uq = m₁ (Str.ofString "q_digit") := ⟨_, rfl⟩
    rw [← huq] at F
    subst hnx
    clear F6 N6 NQ hm hmr
    have kMark : KstMark := kstMark
    simp only [List.map_cons, List.map_nil] at off
    simp only [List.cons_append, List.nil_append] at N
    dsimp only at F
    try dsimp only
    change wpAny _ _ _ _ _ _
    k_fold
    iterate 10 (first | (k_unfold; (try dsimp only)) | (k_end; wrow_close) | walk1 | (dsimp only; walk1))
    have zn : z.2 < 2 ^ n := Nat.lt_trans ok1 hbn
    have p6 : 2 ^ n ≤ 2 ^ 600 := Nat.pow_le_pow_right (by decide) hn2
    refine lshift_int (Int.natCast_nonneg _) ?_ ?_
    · have hb1 : Builtin.Int.intBits (z.2 : Int) ≤ 600 := intBits_le (by rw [Int.natAbs_natCast]; exact Nat.lt_of_lt_of_le zn p6)
      have hb4 : (2 : Int) ^ 27 = 134217728 := by decide
      rw [hb4]
      omega
    rw [Int.toNat_natCast, shl_nat]
    iterate 8 (first | (k_unfold; (try dsimp only)) | (k_end; wrow_close) | walk1 | (dsimp only; walk1))
    rw [← Int.natCast_add]
    have vb : z.2 * 2 ^ n + e < 2 ^ 2000 := by
      have m1 : z.2 * 2 ^ n ≤ (2 ^ n - 1) * 2 ^ n := Nat.mul_le_mul_right _ (by omega)
      have m2 : (2 ^ n - 1) * 2 ^ n + 2 ^ n = 2 ^ (n + n) := by
        have : 0 < 2 ^ n := Nat.two_pow_pos n
        rw [← Nat.succ_mul, Nat.pow_add]
        congr 1; omega
      have m3 : 2 ^ (n + n) ≤ 2 ^ 2000 := Nat.pow_le_pow_right (by decide) (by omega)
      omega
    rename Fr _ _ _ _ => F1
    rename News _ _ _ _ => N1
    refine div_spec D (fun b o e => F1.keep b o (Gg b o e)) (r50.deeper _ |>.less (by omega)) (by omega) (Int.natCast_nonneg _) (intBits_le (by rw [Int.natAbs_natCast]; exact vb)) (intBits_le (by rw [Int.natAbs_natCast]; exact Nat.lt_of_lt_of_le hbn (Nat.pow_le_pow_right (by decide) (by omega)))) fun T t1 t2 h2 tk2 x2 f2 hT2 => ?_
    rw [fdiv_nat, fmod_nat] at hT2
    have Tqd : T ≠ qd := fun q => by
      have f2' := f2
      rw [q] at f2'
      dsimp only at f2'
      rw [(N1 _ (.head _)).1] at f2'
      cases f2'
    have N2 := news_add (news_ext0 N1 x2) F1 hT2 f2
    have F2 := fr_ext0 F1 x2
    clear N1 F1
    try dsimp only at F2 N2 ⊢
    iterate 18 (first | (k_unfold; (try dsimp only)) | (k_end; wrow_close) | walk1 | (dsimp only; walk1))
    rename Fr _ _ _ _ => F3
    rename News _ _ _ _ => N3
    refine append_K F3 N3 (Upd.tail Tqd (Upd.head fun q hq => off q hq _ (.head _))) (fun h4 F4 N4 => ?_) (by rw [List.size_toArray, hia.length, ok2]; exact Nat.le_trans (Nat.le_of_lt hi) (Nat.le_trans hk40 (by size_fits)))
    rw [List.push_toArray] at N4
    clear F3 N3
    try dsimp only at F4 N4 ⊢
    iterate 3 (first | (k_unfold; (try dsimp only)) | (k_end; wrow_close) | walk1 | (dsimp only; walk1))
    refine InvEndN.intro F4 N4 ⟨its ++ [.int (((z.2 * 2 ^ n + e) / b : Nat) : Int) t1], c + 1, t2, rfl, ?_, ?_, ?_⟩ rfl (fun q hq => ?_) fun q hq => .tail _ (.tail _ hq)
    · rw [et, qrF_snoc, ← hz, qrStep, Int.toNat_natCast]
      exact hia.append (.cons _ _ .nil)
    · rw [et, qrF_snoc, ← hz, qrStep, Int.toNat_natCast]
      rfl
    · intro z h1 h2 h3
      simp only [if_neg h1, if_neg h2, if_neg h3]
    · rw [List.mem_singleton.mp hq]; exact .tail _ (.head _)
  · intro m₁ nx h tk ⟨its, c, tr, hnx, hia, hmr, hm⟩ F N
    subst hnx
    rw [digN_len, List.take_of_length_le (by omega)] at hia hmr
    clear F6 N6 NQ
    obtain ⟨_, ok2, ok3⟩ := ok rs.length (Nat.le_refl _) _ rfl
    rw [List.take_length] at ok2 ok3
    replace F := fr_eq (m' := fun y => if y = Str.ofString "a_digit" then m₁ (Str.ofString "a_digit") else if y = Str.ofString "r" then some (.int (qrF b n rs).2 tr) else if y = Str.ofString "q_digit" then m₁ (Str.ofString "q_digit") else if y = Str.ofString "q_digits" then some (Value.ref qd)
      else if y = Str.ofString "a_digits" then some (Value.ref l) else if y = Str.ofString "n" then some (Value.int n tn) else List.lookup y [(Str.ofString "b", Value.int b u), (Str.ofString "a", Value.int a t)]) F (by
        funext y
        by_cases h1 : y = Str.ofString "a_digit"
        · rw [if_pos h1, h1]
        · rw [if_neg h1]
          by_cases h2 : y = Str.ofString "r"
          · rw [if_pos h2, h2, hmr]
          · rw [if_neg h2]
            by_cases h3 : y = Str.ofString "q_digit"
            · rw [if_pos h3, h3]
            · rw [if_neg h3, hm y h1 h3 h2])
    obtain ⟨uq, huq⟩ : ∃ uq, uq = m₁ (Str.ofString "q_digit") := ⟨_, rfl⟩
    obtain ⟨ua, hua⟩ : ∃ uq, uq = m₁ (Str.ofString "a_digit") := ⟨_, rfl⟩
    rw [← huq, ← hua] at F
    clear hm hmr
    try dsimp only
    iterate 6 (first | (k_unfold; (try dsimp only)) | (k_end; wrow_close) | walk1 | (dsimp only; walk1))
    rename Fr _ _ _ _ => F1
    rename News _ _ _ _ => N1
    refine kl_reverse (l := its.reverse) F1 N1 rfl (Upd.head fun q hq => nomatch hq) (by rw [List.toList_toArray, hia.length, ok2, dl]; exact Nat.le_trans hk40 (by size_fits)) fun h2 F2 N2 => ?_
    clear F1 N1
    try dsimp only at F2 N2 ⊢
    iterate 11 (first | (k_unfold; (try dsimp only)) | (k_end; wrow_close) | walk1 | (dsimp only; walk1))
    rename Fr _ _ _ _ => F1
    rename News _ _ _ _ => N1
    refine d2iF_spec D (fun b o e => F1.keep b o (Gg b o e)) h44 (r50.deeper _) (TabIn.ext (W := []) T44 (fun b o _ e => F1.keep b o e) (by simp) (by simp)) (N1 _ (.head _)).1 (ints_rev hia) (fun d hd => ok3 d (List.mem_reverse.mp hd)) (by rw [List.length_reverse, ok2, dl]; exact hk40) hn2 fun tq h3 tk3 x3 => ?_
    have N3 := news_ext0 N1 x3
    have F3 := fr_ext0 F1 x3
    clear N1 F1
    try dsimp only at F3 N3 ⊢
    iterate 10 (first | (k_unfold; (try dsimp only)) | (k_end; wrow_close) | walk1 | (dsimp only; walk1))
    rename Fr _ _ _ _ => F1
    rename News _ _ _ _ => N1
    refine kup_newTuple F1 N1 ?_ (by size_fits)
    intro T h5 F5 N5 lt5
    iterate 1 (first | (k_unfold; (try dsimp only)) | (k_end; wrow_close) | walk1 | (dsimp only; walk1))
    exact ret T _ _ _ h5 _ (xt.1.trans fun b o _ e => F5.keep b o e) (none_of xt.1 (N5 _ (.head _)).2.2) (N5 _ (.head _)).1

end
end Mine

-- part Dm
namespace Mine
section
variable {prog : Program} {w : World} {A : Around} {E : Value → Shared → Prop} {s : Shared} {p : Program} {loose : List Str} {mean : ExcName → Option Value} {mg mb : Str → Option Value} {G : Heap}
theorem dm_spec {a b n k : Nat} {t u : Tok} {Q : Value → Shared → Prop} (D : Gd w p loose mean mg mb G) (hG : ∀ b o, G.get? b = some o → s.heap.get? b = some o) (h37 : G.get? 37 = none) (h44 : G.get? 44 = none) (r : Rm 53 A)
    (hT1 : TabIn 37 39 4 qI s.heap) (hT2 : TabIn 44 54 4 qD s.heap) (ha : a < 2 ^ 2000) (hb : 0 < b) (hn : n = Builtin.Int.intBits (b : Int)) (hn2 : n ≤ 600) (hk : k = (Builtin.Int.intBits (a : Int) + n - 1) / n) (hk40 : k ≤ 40)
    (ret : ∀ T q t1 t2 h' tk, Ext [] s.heap h' → s.heap.get? T = none → h'.get? T = some { cls := .type "tuple", data := .seq #[.int q t1, .int (qrF b n (digN n a k).reverse).2 t2] } → Q (.ref T) { s with heap := h', toks := tk }) :
    wpAny (model prog w) A (call (.ref 63) [.int a t, .int b u]) Q E s := by
  have r50 : Rm 53 A := r
  obtain ⟨hd, dp, fr, gd, un⟩ := A
  obtain rfl : hd = none := r.hh
  have rd := r.dp
  have ru := r.un
  dsimp only at rd ru
  refine' callK (binds := [(Str.ofString "a", .int a t), (Str.ofString "b", .int b u)]) [] D hG (by simp) r.room ?ko ?kc (BindsTo.of_eq ?kb) ?kloc ?_ ?kcell ?c2 ?c3 ?c4
  case ko => k_is
  case kc => k_is
  case kb => rfl
  case kloc => exact locs rfl
  case kcell => decide
  case c2 => rfl
  case c3 => rfl
  case c4 => rfl
  intro g L' h₁ Dg lt xt wt F old X T
  simp only [List.reverse_cons, List.reverse_nil, List.nil_append, List.cons_append, List.length_cons, List.length_nil] at F ⊢
  have N : News g L' h₁ [] := News.nil
  try dsimp only
  change wpAny _ _ _ _ _ _
  k_fold

  have Gg : ∀ b o, G.get? b = some o → g.get? b = some o := fun b o e => xt.1 b o (by simp) (hG b o e)
  have T37 : TabIn 37 39 4 qI g := hT1.ext xt.1 (by simp) (by simp)
  have T44 : TabIn 44 54 4 qD g := hT2.ext xt.1 (by simp) (by simp)
  iterate 7 (first | (k_unfold; (try dsimp only)) | (k_end; wrow_close) | walk1 | (dsimp only; walk1))
  refine ite_neg (by simp only [beq_iff_eq]; omega) ?_
  iterate 8 (first | (k_unfold; (try dsimp only)) | (k_end; wrow_close) | walk1 | (dsimp only; walk1))
  refine ite_neg (by simp only [decide_eq_true_eq]; omega) ?_
  iterate 8 (first | (k_unfold; (try dsimp only)) | (k_end; wrow_close) | walk1 | (dsimp only; walk1))
  refine ite_neg (by simp only [decide_eq_true_eq]; omega) ?_
  iterate 12 (first | (k_unfold; (try dsimp only)) | (k_end; wrow_close) | walk1 | (dsimp only; walk1))
  rename Fr _ _ _ _ => F1
  refine dp_spec D (fun b o e => F1.keep b o (Gg b o e)) h37 h44 (r50.deeper _) (TabIn.ext (W := []) T37 (fun b o _ e => F1.keep b o e) (by simp) (by simp)) (TabIn.ext (W := []) T44 (fun b o _ e => F1.keep b o e) (by simp) (by simp)) ha hb hn hn2 hk hk40 fun T q t1 t2 h2 tk2 x2 f2 hT => ?_
  have F2 := fr_ext0 F1 x2
  skip
  have x1 : Ext [] s.heap h₁ := fun b o _ e => old b o e
  exact ret T _ _ _ h2 _ (x1.trans x2) (none_of x1 f2) hT

end
end Mine

-- part LoopC
namespace Mine
section
variable {prog : Program} {w : World} {A : Around} {E : Value → Shared → Prop} {s : Shared} {env : Env} {h₀ : Heap} {x : Str} {body : List Stmt} {Q : Flow → Shared → Prop}
/-- a for over a list that stood before the call, by its values -/
theorem loop_listV {l : Addr} {vs : List Value} {m₀ : Str → Option Value} {news : List (Addr × Obj)} (J : Nat → (Str → Option Value) → List (Addr × Obj) → Prop)
    (hh : A.handled = none) (hl : h₀.IsList l vs.toArray) (F : Fr h₀ env.locals s.heap m₀) (N : News h₀ env.locals s.heap news) (hj : J 0 m₀ news)
    (turn : ∀ i v m₁ news₁ h tk own, vs[i]? = some v → OwnOff own (news.map (·.1)) → J i m₁ news₁ → Fr h₀ env.locals h (fun y => if y = x then some v else m₁ y) → News h₀ env.locals h (news₁ ++ own) →
      wpAny (model prog w) A (execs body env) (InvPostN h₀ env.locals (J (i + 1)) own (news.map (·.1)) { s with heap := h, toks := tk } Q) E { s with heap := h, toks := tk })
    (done : ∀ m₁ news₁ h tk, J vs.length m₁ news₁ → Fr h₀ env.locals h m₁ → News h₀ env.locals h news₁ → Q .next { s with heap := h, toks := tk }) :
    wpAny (model prog w) A (pyIter (.ref l)) (fun it s₂ => LoopAtV prog w A h₀ env x body Q E it s₂) E s := by
  have hls : s.heap.IsList l vs.toArray := hl.at fun o e => F.keep l o e
  obtain ⟨ol, hol, _⟩ := id hl
  have hlt : l < h₀.objs.size := Heap.lt_size hol
  have hne : l ≠ s.heap.objs.size := Nat.ne_of_lt (Nat.lt_trans (Nat.lt_of_lt_of_le hlt F.above) F.ns.lt)
  refine wpAny_pyIter_list hls ?_
  have W := Walks.list (prog := prog) (w := w) hh s.heap.objs.size l hne vs.toArray
  have hlen : vs.toArray.size = vs.length := by simp
  rw [hlen] at W
  refine loop_invN J W ?_ ?_ ?_ ?_ ⟨⟨_, Heap.get?_push_size _ rfl, rfl, rfl⟩, hls.at fun o e => Heap.get?_push_of_some _ e⟩ (F.push _) (fun p hp => ⟨Heap.get?_push_of_some _ (N p hp).1, (N p hp).2⟩) hj ?_ done
  · intro hm
    rcases List.mem_cons.mp hm with e | hm
    · exact absurd F.ns.lt (e ▸ Nat.lt_irrefl _)
    · exact absurd (Nat.lt_of_lt_of_le hlt F.above) ((List.mem_singleton.mp hm) ▸ Nat.lt_irrefl _)
  · intro b hb
    rw [List.mem_singleton.mp hb]
    exact next_is_new F
  · intro p hp hI
    exact absurd (Heap.lt_size (N p hp).1) ((List.mem_singleton.mp hI) ▸ Nat.lt_irrefl _)
  · intro p hp hI
    rcases List.mem_cons.mp hI with e | hI
    · exact absurd (Heap.lt_size (N p hp).1) (e ▸ Nat.lt_irrefl _)
    · have h3 := (N p hp).2.2
      rw [List.mem_singleton.mp hI, hol] at h3
      cases h3
  · rintro i v m₁ nx h tk own hin hP _ hoff hJ F₁ N₁
    exact turn i v m₁ nx h tk own (by simpa using hP) hoff hJ F₁ N₁
end
section
variable {M : Model} {A : Around} {E : Value → Shared → Prop} {s : Shared}
/-- `is` between ints of which the one is small -/
theorem is_int {a b : Int} {t u : Tok} {Q : Value → Shared → Prop} (ht : t ≠ 0) (hu : u ≠ 0) (hne : t = u → a = b) (hsm : a = b → smallInt a = true) (h : Q (.bool (decide (a = b))) s) : wpAny M A (compareOp .Is (.int a t) (.int b u)) Q E s := by
  show wpAny M A (do return .bool (← isSame (.int a t) (.int b u))) Q E s
  have h0 : (t == 0 || u == 0) = false := by simp [ht, hu]
  have key : ∀ R : Bool → Shared → Prop, R (decide (a = b)) s → wpAny M A (isSame (.int a t) (.int b u)) R E s := by
    intro R hR
    by_cases e : a = b
    · have e2 : (a == b && smallInt a) = true := by rw [hsm e, e]; simp
      show wpAny M A (if (a == b && smallInt a) = true then isSame.cachedInt t u else isSame.created (a == b) t u) R E s
      rw [if_pos e2]
      unfold isSame.cachedInt
      rw [if_neg (by rw [h0]; exact Bool.false_ne_true)]
      rw [decide_eq_true e] at hR
      exact wpAny_bind (wpAny_rule (wpAny_pure hR))
    · have e1 : (a == b) = false := by simpa using e
      show wpAny M A (if (a == b && smallInt a) = true then isSame.cachedInt t u else isSame.created (a == b) t u) R E s
      rw [e1, if_neg (by simp)]
      rw [decide_eq_false e] at hR
      have htu : (t == u) = false := by simpa using fun q => e (hne q)
      unfold isSame.created
      refine wpAny_ite ?_
      rw [if_neg (by rw [h0]; exact Bool.false_ne_true)]
      refine wpAny_ite ?_
      rw [if_neg (by rw [htu]; exact Bool.false_ne_true)]
      refine wpAny_ite ?_
      rw [if_pos (show ((!false) = true) from rfl)]
      exact wpAny_pure hR
  exact wpAny_bind (key _ (wpAny_pure h))
end
end Mine

-- part Co
namespace Mine
section
variable {prog : Program} {w : World} {A : Around} {E : Value → Shared → Prop} {s : Shared} {p : Program} {loose : List Str} {mean : ExcName → Option Value} {mg mb : Str → Option Value} {G : Heap}
def cnt (b : Int) (ns : List Int) : Int := ns.foldl (fun c i => if i = b then c + 1 else c) 0
theorem cnt_snoc (b : Int) (ns : List Int) (i : Int) : cnt b (ns ++ [i]) = if i = b then cnt b ns + 1 else cnt b ns := by
  unfold cnt; rw [List.foldl_append]; rfl
theorem co_spec {l : Addr} {b : Int} {u : Tok} {vs : List Value} {ns : List Int} {Q : Value → Shared → Prop} (D : Gd w p loose mean mg mb G) (hG : ∀ b o, G.get? b = some o → s.heap.get? b = some o) (r : Rm 1 A)
    (hl : s.heap.IsList l vs.toArray) (hi : IntsAre vs ns) (hu : u ≠ 0) (hsm : smallInt b = true) (htok : ∀ x ∈ vs, ∃ v t, x = .int v t ∧ t ≠ 0 ∧ (t = u → v = b))
    (ret : ∀ t h' tk, Ext [] s.heap h' → Q (.int (cnt b ns) t) { s with heap := h', toks := tk }) :
    wpAny (model prog w) A (call (.ref 112) [.ref l, .int b u]) Q E s := by
  obtain ⟨hd, dp, fr, gd, un⟩ := A
  obtain rfl : hd = none := r.hh
  have rd := r.dp
  have ru := r.un
  dsimp only at rd ru
  refine' callK (binds := [(Str.ofString "a", .ref l), (Str.ofString "b", .int b u)]) [] D hG (by simp) r.room ?ko ?kc (BindsTo.of_eq ?kb) ?kloc ?_ ?kcell ?c2 ?c3 ?c4
  case ko => k_is
  case kc => k_is
  case kb => rfl
  case kloc => exact locs rfl
  case kcell => decide
  case c2 => rfl
  case c3 => rfl
  case c4 => rfl
  intro g L' h₁ Dg lt xt wt F old X T
  simp only [List.reverse_cons, List.reverse_nil, List.nil_append, List.cons_append, List.length_cons, List.length_nil] at F ⊢
  have N : News g L' h₁ [] := News.nil
  try dsimp only
  change wpAny _ _ _ _ _ _
  k_fold

  have hlg : g.IsList l vs.toArray := hl.at fun o e => xt.1 _ _ (by simp) e
  iterate 5 (first | (k_unfold; (try dsimp only)) | (k_end; wrow_close) | walk1 | (dsimp only; walk1))
  rename Fr _ _ _ _ => F0
  refine For_invVF F0 rfl rfl ?_
  change wpAny _ _ _ _ _ _
  k_fold
  iterate 1 (first | (k_unfold; (try dsimp only)) | (k_end; wrow_close) | walk1 | (dsimp only; walk1))
  rename Fr _ _ _ _ => F1
  rename News _ _ _ _ => N1
  refine loop_listV (fun i m nx => nx = [] ∧ (∃ tc, m (Str.ofString "count") = some (.int (cnt b (ns.take i)) tc)) ∧
    ∀ z, z ≠ Str.ofString "i" → z ≠ Str.ofString "count" → m z = List.lookup z [(Str.ofString "b", Value.int b u), (Str.ofString "a", Value.ref l)]) rfl hlg F1 N1 ⟨rfl, ⟨_, rfl⟩, ?_⟩ ?_ ?_
  · intro z h1 h2
    simp only [if_neg h2]
  · intro i xv m₁ nx h tk own hxv off ⟨hnx, ⟨tc, hmc⟩, hm⟩ F N
    subst hnx
    obtain ⟨x, tx, rfl, tx0, txu⟩ := htok xv (List.mem_of_getElem? hxv)
    have hx : ns[i]? = some x := by
      obtain ⟨n, t, e1, e2⟩ := ints_get hi hxv
      cases e1; exact e2
    have et : ns.take (i + 1) = ns.take i ++ [x] := by rw [List.take_add_one, hx]; rfl
    replace F := fr_eq (m' := fun y => if y = Str.ofString "i" then some (Value.int x tx) else if y = Str.ofString "count" then some (.int (cnt b (ns.take i)) tc) else List.lookup y [(Str.ofString "b", Value.int b u), (Str.ofString "a", Value.ref l)]) F (by
        funext y
        by_cases h1 : y = Str.ofString "i"
        · rw [if_pos h1, if_pos h1]
        · rw [if_neg h1, if_neg h1]
          by_cases h2 : y = Str.ofString "count"
          · rw [if_pos h2, h2, hmc]
          · rw [if_neg h2, hm y h1 h2])
    clear F1 hm hmc
    have kMark : KstMark := kstMark
    simp only [List.map_nil] at off
    simp only [List.nil_append] at N
    try dsimp only
    change wpAny _ _ _ _ _ _
    k_fold
    iterate 6 (first | (k_unfold; (try dsimp only)) | (k_end; wrow_close) | walk1 | (dsimp only; walk1))
    refine is_int tx0 hu txu (fun e => by rw [e]; exact hsm) ?_
    by_cases e : x = b
    · rw [decide_eq_true e]
      have ec : cnt b (ns.take (i + 1)) = cnt b (ns.take i) + 1 := by rw [et, cnt_snoc, if_pos e]
      iterate 13 (first | (k_unfold; (try dsimp only)) | (k_end; wrow_close) | walk1 | (dsimp only; walk1))
      rename Fr _ _ _ _ => F9
      rename News _ _ _ _ => N9
      refine InvEndN.intro (nx := []) F9 N9 ⟨rfl, ⟨_, by rw [ec]; rfl⟩, ?_⟩ rfl (fun q hq => nomatch hq) fun q hq => hq
      intro z h1 h2
      simp only [if_neg h1, if_neg h2]
    · rw [decide_eq_false e]
      have ec : cnt b (ns.take (i + 1)) = cnt b (ns.take i) := by rw [et, cnt_snoc, if_neg e]
      iterate 6 (first | (k_unfold; (try dsimp only)) | (k_end; wrow_close) | walk1 | (dsimp only; walk1))
      refine eq_int ?_
      rw [show (x == b) = false by simpa using e]
      iterate 8 (first | (k_unfold; (try dsimp only)) | (k_end; wrow_close) | walk1 | (dsimp only; walk1))
      rename Fr _ _ _ _ => F9
      rename News _ _ _ _ => N9
      refine InvEndN.intro (nx := []) F9 N9 ⟨rfl, ⟨_, by rw [ec]; rfl⟩, ?_⟩ rfl (fun q hq => nomatch hq) fun q hq => hq
      intro z h1 h2
      simp only [if_neg h1, if_neg h2]
  · intro m₁ nx h tk ⟨hnx, ⟨tc, hmc⟩, hm⟩ F N
    subst hnx
    rw [hi.length, List.take_length] at hmc
    clear F1
    try dsimp only
    iterate 2 (first | (k_unfold; (try dsimp only)) | (k_end; wrow_close) | walk1 | (dsimp only; walk1))
    refine nameX_L F hmc ?_
    skip
    exact ret _ _ _ (xt.1.trans fun b o _ e => F.keep b o e)

end
end Mine

-- part LoopX
namespace Mine
section
variable {prog : Program} {w : World} {A : Around} {E : Value → Shared → Prop} {s : Shared} {h₀ : Heap} {L a c : Addr} {cn : Str} {cs : Scope} {ccd : Value} {cl : List (Str × Addr)} {x : Str} {body : List Stmt} {Q : Flow → Shared → Prop}
/-- a loop that only goes on, whose variable is a cell of the frame -/
def LoopAtX (prog : Program) (w : World) (A : Around) (h₀ : Heap) (L : Addr) (env : Env) (c : Addr) (body : List Stmt) (Q : Flow → Shared → Prop) (E : Value → Shared → Prop) (it : Value) (s₂ : Shared) : Prop :=
  ∃ (I : Addr) (fp wr : List Addr) (n : Nat) (P : Nat → Value → Prop) (St : Nat → Heap → Prop) (m : Str → Option Value) (o : Obj) (v₀ : Option Value) (rest : List (Addr × Obj)) (J : Nat → (Str → Option Value) → List (Addr × Obj) → Prop),
    it = .ref I ∧ Walks prog w A I fp wr n P St ∧ L ∉ fp ∧ c ∉ fp ∧ (∀ b ∈ wr, h₀.get? b = none) ∧ (∀ p ∈ rest, p.1 ∉ fp ∧ p.1 ≠ c) ∧ St 0 s₂.heap ∧ Fr h₀ L s₂.heap m ∧ News h₀ L s₂.heap ((c, o) :: rest) ∧ o.data = .cell v₀ ∧ J 0 m rest ∧
    (∀ i v m₁ nx o' h tk own, i < n → P i v → OwnOff own (c :: rest.map (·.1)) → (∀ p ∈ nx, p.1 ≠ c) → J i m₁ nx → o'.data = .cell (some v) → Fr h₀ L h m₁ → News h₀ L h ((c, o') :: (nx ++ own)) →
      wpAny (model prog w) A (execs body env) (InvPostN h₀ L (fun m' nx' => ∃ o'' v'' r, nx' = (c, o'') :: r ∧ o''.data = .cell v'' ∧ J (i + 1) m' r) own (c :: rest.map (·.1)) { s₂ with heap := h, toks := tk } fun _ _ => False) E { s₂ with heap := h, toks := tk }) ∧
    ∀ h' tk m' nx o' v', Fr h₀ L h' m' → News h₀ L h' ((c, o') :: nx) → o'.data = .cell v' → J n m' nx → Q .next { s₂ with heap := h', toks := tk }

theorem For_X {px pos : Pos} {iter : Expr} (hk : cs.kind = .function) (hx : (envX cn cs L a ccd cl).kindOf x = some .cell) (hc : cl.lookup x = some c)
    (h : wpAny (model prog w) A (eval iter (envX cn cs L a ccd cl)) (fun xv s₁ => wpAny (model prog w) A (pyIter xv) (fun it s₂ => LoopAtX prog w A h₀ L (envX cn cs L a ccd cl) c body Q E it s₂) E s₁) E s)
    (hs : ∀ x, foldedSetIterable iter (envX cn cs L a ccd cl) x = pure x := by intro _; rfl)
    (hE : PassesOwn (model prog w) A (envX cn cs L a ccd cl) E := by passes_own) :
    wpAny (model prog w) A (exec (.For (.Name x px) iter body [] pos) (envX cn cs L a ccd cl)) Q E s := by
  refine wpAny_For (wpAny_mono h (fun xv s₁ h₁ => wpAny_mono h₁ (fun it s₂ h₂ => ?_) fun _ _ e => e) fun _ _ e => e) hs
  obtain ⟨I, fp, wr, n, P, St, m, o, v₀, rest, J, rfl, W, hLf, hcf, hwr, hnf, hst, F, N, ho, h0, step, hQ⟩ := h₂
  have hLw : L ∉ wr := fun h => hLf (W.sub _ h)
  have old : ∀ b o, h₀.get? b = some o → b ∉ wr := fun b o e hb => by rw [hwr b hb] at e; cases e
  refine codeAny_forLoop
    (fun k s' => ∃ h' tk m' nx o v i, s' = { s₂ with heap := h', toks := tk } ∧ St i h' ∧ Fr h₀ L h' m' ∧ News h₀ L h' ((c, o) :: nx) ∧ nx.map (·.1) = rest.map (·.1) ∧ o.data = .cell v ∧ J i m' nx ∧ i ≤ n ∧ k = n + 1 - i) ?_ (n + 1)
    ⟨s₂.heap, s₂.toks, m, rest, o, v₀, 0, rfl, hst, F, N, rfl, ho, h0, Nat.zero_le _, rfl⟩
  rintro k s' ⟨h', tk, m', nx, o, v₀, i, rfl, hst', F', N', hadr, ho, hJ, hi, rfl⟩
  have offN : ∀ p ∈ nx, p.1 ∉ fp ∧ p.1 ≠ c := fun p hp => by
    have h1 : p.1 ∈ nx.map (·.1) := List.mem_map.mpr ⟨p, hp, rfl⟩
    rw [hadr] at h1
    obtain ⟨q, hq1, hq2⟩ := List.mem_map.mp h1
    rw [← hq2]; exact hnf q hq1
  have next : ∀ h₁ : Heap, (∀ b o, b ∉ wr → h'.get? b = some o → h₁.get? b = some o) → Fr h₀ L h₁ m' ∧ News h₀ L h₁ ((c, o) :: nx) := fun h₁ hk₁ =>
    ⟨⟨F'.ns.at' fun o e => hk₁ _ o hLw e, fun b o e => hk₁ b o (old b o e) (F'.keep b o e), F'.above⟩, fun p hp => ⟨hk₁ _ _ (fun q => by
      rcases List.mem_cons.mp hp with rfl | hp
      · exact hcf (W.sub _ q)
      · exact (offN p hp).1 (W.sub _ q)) (N' p hp).1, (N' p hp).2⟩⟩
  by_cases hlt : i < n
  · refine W.item i _ _ _ hlt hst' fun v h₁ tk₁ hP hst₁ hk₁ => ?_
    obtain ⟨F₁, N₁⟩ := next h₁ hk₁
    refine wpAny_assign_Name (wpAny_storeName_cell hk hx hc ⟨o, (N₁ _ (.head _)).1, ho⟩ fun h₂ hv hs₂ => ?_)
    obtain ⟨o', hg, ho'⟩ := hv
    have F₂ := F₁.change hs₂ (N₁ _ (.head _)).2.1 (N₁ _ (.head _)).2.2
    have N₂ : News h₀ L h₂ ((c, o') :: nx) := news_put N₁ hs₂ hg fun p hp => (offN p hp).2
    have hkc : ∀ b o, b ≠ c → h₁.get? b = some o → h₂.get? b = some o := fun b o hb e => hs₂.extBut b o hb e
    have Nown : News h₀ L h₂ (ownOf h₀ fp h₂) := news_ownOf hLf
    have hst₂ : St (i + 1) h₂ := W.frame _ _ _ hst₁ fun b hb o e => hkc b o (fun q => hcf (q ▸ hb)) e
    have off : OwnOff (ownOf h₀ fp h₂) (c :: rest.map (·.1)) := fun p hp b hb e => by
      rcases List.mem_cons.mp hb with rfl | hb
      · exact hcf (e ▸ ownOf_sub p hp)
      · obtain ⟨q, hq, rfl⟩ := List.mem_map.mp hb
        exact (hnf q hq).1 (e ▸ ownOf_sub p hp)
    have N₃ : News h₀ L h₂ ((c, o') :: (nx ++ ownOf h₀ fp h₂)) := N₂.append Nown
    refine wpAny_mono (wpAny_passesOwn hE (step i v m' nx o' h₂ _ (ownOf h₀ fp h₂) hlt hP off (fun p hp => (offN p hp).2) hJ ho' F₂ N₃)) (fun f s₃ h₃ => ?_) fun _ _ e => e
    have fin : ∀ tkz, InvEndN h₀ L (fun m' nx' => ∃ o'' v'' r, nx' = (c, o'') :: r ∧ o''.data = .cell v'' ∧ J (i + 1) m' r) (ownOf h₀ fp h₂) (c :: rest.map (·.1)) { s₂ with heap := h₂, toks := tkz } s₃ →
        ∃ k', k' < n + 1 - i ∧ ∃ h' tk m' nx o v i, s₃ = { s₂ with heap := h', toks := tk } ∧ St i h' ∧ Fr h₀ L h' m' ∧ News h₀ L h' ((c, o) :: nx) ∧ nx.map (·.1) = rest.map (·.1) ∧ o.data = .cell v ∧ J i m' nx ∧ i ≤ n ∧ k' = n + 1 - i := by
      rintro tkz ⟨h₃', tk₃, m₃, news₃, nx₃, rfl, F₃, N₃, hn₃, ho₃, ha₃, o'', v'', r, rfl, hd₃, hJ₃⟩
      refine ⟨n + 1 - (i + 1), by omega, h₃', tk₃, m₃, r, o'', v'', i + 1, rfl, ?_, F₃, fun p hp => N₃ p (hn₃ p hp), (List.cons.inj ha₃).2, hd₃, hJ₃, hlt, rfl⟩
      refine W.frame _ _ _ hst₂ fun b hb o e => ?_
      cases hn : h₀.get? b with
      | some o₀ =>
        have : o₀ = o := by have := F₂.keep b o₀ hn; rw [e] at this; exact (Option.some.inj this).symm
        exact this ▸ F₃.keep b o₀ hn
      | none => exact (N₃ _ (ho₃ _ (mem_ownOf hb hn e))).1
    cases f with
    | ret v => exact h₃.elim
    | brk => exact h₃.elim
    | cont => exact fin _ h₃
    | next => exact fin _ h₃
  · have hin : i = n := by omega
    subst hin
    refine W.done _ _ _ hst' fun h₁ tk₁ hk₁ => wpAny_execs_nil ?_
    obtain ⟨F₁, N₁⟩ := next h₁ hk₁
    exact hQ h₁ tk₁ m' nx o v₀ F₁ N₁ ho hJ
theorem loop_rangeX {env : Env} {r : Addr} {a₀ b₀ : Int} {t₀ u₀ w₀ : Tok} {n : Nat} {m₀ : Str → Option Value} {o : Obj} {v₀ : Option Value} {rest : List (Addr × Obj)} (J : Nat → (Str → Option Value) → List (Addr × Obj) → Prop)
    (hh : A.handled = none) (hr : IsRange s.heap r a₀ b₀ 1 t₀ u₀ w₀) (hsmall : Builtin.Range.small a₀ b₀ 1 = true) (hn : Builtin.Range.rangeSize a₀ b₀ 1 = (n : Int)) (F : Fr h₀ L s.heap m₀) (N : News h₀ L s.heap ((c, o) :: rest)) (hoff : ∀ p ∈ rest, p.1 ≠ c) (ho : o.data = .cell v₀) (hj : J 0 m₀ rest)
    (turn : ∀ i t m₁ nx o' h tk own, i < n → OwnOff own (c :: rest.map (·.1)) → (∀ p ∈ nx, p.1 ≠ c) → J i m₁ nx → o'.data = .cell (some (.int (a₀ + (i : Int)) t)) → Fr h₀ L h m₁ → News h₀ L h ((c, o') :: (nx ++ own)) →
      wpAny (model prog w) A (execs body env) (InvPostN h₀ L (fun m' nx' => ∃ o'' v'' r, nx' = (c, o'') :: r ∧ o''.data = .cell v'' ∧ J (i + 1) m' r) own (c :: rest.map (·.1)) { s with heap := h, toks := tk } fun _ _ => False) E { s with heap := h, toks := tk })
    (done : ∀ h' tk m' nx o' v', Fr h₀ L h' m' → News h₀ L h' ((c, o') :: nx) → o'.data = .cell v' → J n m' nx → Q .next { s with heap := h', toks := tk }) :
    wpAny (model prog w) A (pyIter (.ref r)) (fun it s₂ => LoopAtX prog w A h₀ L env c body Q E it s₂) E s := by
  refine wpAny_pyIter_range hr hsmall ?_
  have W : Walks prog w A s.heap.objs.size [s.heap.objs.size] [s.heap.objs.size] n (fun i v => i < n ∧ ∃ t, v = .int (a₀ + i * 1) t)
      (fun i h => IsRangeIter h s.heap.objs.size (a₀ + (i : Nat) * 1) ((n : Int) - (i : Nat)) 1) := (Walks.range hh _ a₀ 1 n).bound
  have apart : ∀ p ∈ ((c, o) :: rest), p.1 ≠ s.heap.objs.size := fun p hp e => absurd (Heap.lt_size (N p hp).1) (e ▸ Nat.lt_irrefl _)
  refine ⟨_, _, _, n, _, _, m₀, o, v₀, rest, J, rfl, W, ?_, ?_, ?_, ?_, ?_, F.push _, (fun p hp => ⟨Heap.get?_push_of_some _ (N p hp).1, (N p hp).2⟩), ho, hj, ?_, done⟩
  · exact fun hm => absurd F.ns.lt ((List.mem_singleton.mp hm) ▸ Nat.lt_irrefl _)
  · exact fun hm => apart _ (.head _) (List.mem_singleton.mp hm)
  · exact fun b hb => by rw [List.mem_singleton.mp hb]; exact next_is_new F
  · exact fun p hp => ⟨fun hI => apart p (.tail _ hp) (List.mem_singleton.mp hI), hoff p hp⟩
  · show IsRangeIter _ _ _ _ _
    rw [hn]; simpa using Heap.get?_push_size _ rfl
  · rintro i v m₁ nx o' h tk own hi ⟨_, t, rfl⟩ hoff hnc hJ ho' F₁ N₁
    rw [Int.mul_one] at ho'
    exact turn i t m₁ nx o' h tk own hi hoff hnc hJ ho' F₁ N₁
end
section
variable {prog : Program} {w : World} {A : Around} {s : Shared} {h₀ : Heap} {L : Addr} {m : Str → Option Value} {env : Env} {elt : Expr} {x : Str} {scope : Scope} {cl : List (Str × Addr)} {P : Nat → Value → Prop} {Fin : List Value → List (Addr × Obj) → Prop}
/-- a comprehension that gives ints and changes nothing -/
theorem comp_ints {f : Nat → Int} {n : Nat} {news : List (Addr × Obj)}
    (step : ∀ j ys v I oI C oC D m₂ h tk (E' : Value → Shared → Prop), j < n → P j v → LCg.NsObj oC m₂ → m₂ x = some v → Fr h₀ L h m → News h₀ L h ((I, oI) :: (C, oC) :: (D, LCg.lst ys) :: news) →
      wpAny (model prog w) A (eval elt (compEnvC scope cl C env)) (fun y s' => ∃ t h' tk', y = .int (f j) t ∧ s' = { s with heap := h', toks := tk' } ∧ Fr h₀ L h' m ∧ News h₀ L h' ((I, oI) :: (C, oC) :: (D, LCg.lst ys) :: news)) E' { s with heap := h, toks := tk })
    (fin : ∀ ys, IntsAre ys ((List.range n).map f) → Fin ys news) : LCg.CompRest prog w A h₀ L m env elt x scope cl s (fun _ => True) P Fin n 0 [] news := by
  have go : ∀ (k j : Nat) (ys : List Value), j + k = n → IntsAre ys ((List.range j).map f) → LCg.CompRest prog w A h₀ L m env elt x scope cl s (fun _ => True) P Fin k j ys news := by
    intro k
    induction k with
    | zero =>
      intro j ys hj hi
      obtain rfl : j = n := by omega
      exact .zero (fin ys hi)
    | succ k ih =>
      intro j ys hj hi
      refine .succ fun v I oI C oC D m₂ h tk E' hP hC hx F N off hne => ?_
      refine wpAny_mono (step j ys v I oI C oC D m₂ h tk E' (by omega) hP hC hx F N) (fun y s' hy => ?_) fun _ _ e => e
      obtain ⟨t, h', tk', rfl, rfl, F', N'⟩ := hy
      refine ⟨h', tk', news, rfl, F', N', off, trivial, ih (j + 1) _ (by omega) ?_⟩
      rw [List.range_succ, List.map_append]
      exact hi.append (.cons _ _ .nil)
  exact go n 0 [] (by omega) .nil
end
end Mine

-- part Lc
namespace Mine
section
variable {prog : Program} {w : World} {A : Around} {E : Value → Shared → Prop} {s : Shared} {p : Program} {loose : List Str} {mean : ExcName → Option Value} {mg mb : Str → Option Value} {G : Heap}
local macro_rules | `(tactic| walk_at "eval Name") => `(tactic| (k_here; k_dflt (refine' nameX_base ?F ?c ?o ?d ?_ ?a ?b; (case a => rfl); (case b => rfl); (case F => k_asm); (case c => rfl); (case o => assumption); (case d => assumption); k_whole)))
def cmnAt (ns : List Int) (k : Nat) : Int := ((List.range ns.length).map fun p => ns.getD p 0 * ns.getD ((p + k) % ns.length) 0).sum
def cmnF (ns : List Int) (i : Nat) : List Int := (List.range i).map fun k => cmnAt ns (k + 1)
theorem cmnF_succ (ns : List Int) (i : Nat) : cmnF ns (i + 1) = cmnF ns i ++ [cmnAt ns (i + 1)] := by simp [cmnF, List.range_succ]
theorem cmnF_len (ns : List Int) (i : Nat) : (cmnF ns i).length = i := by simp [cmnF]
theorem lc_spec {ns : List Int} {t : Tok} {Q : Value → Shared → Prop} (D : Gd w p loose mean mg mb G) (hG : ∀ b o, G.get? b = some o → s.heap.get? b = some o) (r : Rm 2 A)
    (hb : ∀ n ∈ ns, 0 ≤ n ∧ n < 256) (hl1 : 0 < ns.length) (hl2 : ns.length ≤ 100)
    (ret : ∀ l vs e h' tk, Ext [] s.heap h' → s.heap.get? l = none → h'.get? l = some (listOf vs.toArray e) → IntsAre vs (cmnF ns ns.length) → Q (.ref l) { s with heap := h', toks := tk }) :
    wpAny (model prog w) A (call (.ref 124) [.bytes (byteArr ns) t]) Q E s := by
  refine' callKC (binds := [(Str.ofString "row", .bytes (byteArr ns) t)]) [] D hG (by simp) r.room ?ko ?kc (BindsTo.of_eq ?kb) ?kkind ?knd ?_ ?c2 ?c3 ?c4
  case ko => k_is
  case kc => k_is
  case kb => rfl
  case kkind => exact rfl
  case knd => decide +kernel
  case c2 => rfl
  case c3 => rfl
  case c4 => rfl
  intro g L' h₁ tk₁ cells Dg lt xt wt F old X T NC Y

  obtain ⟨o1, o2, o3, rfl, d1, d2, d3⟩ := CellsAre.three Y
  clear Y
  change o1.data = .cell none at d1
  change o2.data = .cell none at d2
  change o3.data = .cell (some (.bytes (byteArr ns) t)) at d3
  change Fr g L' h₁ (fun _ => none) at F
  obtain ⟨hd, dp, fr, gd, un⟩ := A
  obtain rfl : hd = none := r.hh
  have rd := r.dp
  have ru := r.un
  dsimp only at rd ru
  change wpAny _ _ _ _ _ _
  k_fold
  iterate 8 (first | (k_unfold; (try dsimp only)) | (k_end; wrow_close) | walk1 | (dsimp only; walk1))
  refine len_bytes (by rw [byteArr_size]; omega) ?_
  rw [byteArr_size]
  skip
  refine storeX_C (c := L' + 1 + 1) (o := o2) F NC rfl (UpdF.tail ?n1 (UpdF.head ?n2)) d2 ?_
  case n1 => refine neN ?_; dsimp only; omega
  case n2 =>
    intro q hq
    rw [List.mem_singleton.mp hq]
    refine neN ?_; dsimp only; omega
  intro h2 o2' F2 N2 d2'
  clear F NC
  try dsimp only at F2 N2 ⊢
  iterate 5 (first | (k_unfold; (try dsimp only)) | (k_end; wrow_close) | walk1 | (dsimp only; walk1))
  refine newList_K (by assumption) (by assumption) ?_
  intro l1 h1 F1 N1 lt1
  clear F2 N2
  try dsimp only at F1 N1 ⊢
  iterate 3 (first | (k_unfold; (try dsimp only)) | (k_end; wrow_close) | walk1 | (dsimp only; walk1))
  rename Fr _ _ _ _ => F2
  rename News _ _ _ _ => N2
  refine For_X (h₀ := g) (L := L') (c := L' + 1 + 1 + 1) rfl rfl rfl ?_
  change wpAny _ _ _ _ _ _
  k_fold
  iterate 12 (first | (k_unfold; (try dsimp only)) | (k_end; wrow_close) | walk1 | (dsimp only; walk1))
  rename Fr _ _ _ _ => lF
  rename News _ _ _ _ => lN
  rename IsRange _ _ _ _ _ _ _ _ => rg
  have eL : ∀ q : Addr × Obj, q ∈ [(l1, listOf #[] 0), (L' + 1 + 1, o2'), (L' + 1, o3)] → q.1 ≠ L' + 1 + 1 + 1 := fun q hq => by
    rcases List.mem_cons.mp hq with rfl | hq
    · exact Nat.ne_of_gt (lt1 _ (.head _))
    · rcases List.mem_cons.mp hq with rfl | hq
      · refine neN ?_; dsimp only; omega
      · rw [List.mem_singleton.mp hq]
        refine neN ?_; dsimp only; omega
  refine loop_rangeX (n := ns.length) (o := o1) (v₀ := none) (rest := [(l1, listOf #[] 0), (L' + 1 + 1, o2'), (L' + 1, o3)]) (fun i m nx => m = (fun y => if y = Str.ofString "common" then some (Value.ref l1) else none) ∧ ∃ its e, nx = [(l1, listOf (List.toArray its) e), (L' + 1 + 1, o2'), (L' + 1, o3)] ∧ IntsAre its (cmnF ns i))
    rfl rg (small_one (by omega) (by omega) (by omega) (by omega)) (by rw [rangeSize_nat]; omega) lF (fun q hq => lN q (by
      rcases List.mem_cons.mp hq with rfl | hq
      · exact .tail _ (.head _)
      · rcases List.mem_cons.mp hq with rfl | hq
        · exact .head _
        · exact .tail _ (.tail _ hq))) eL d1 ⟨rfl, [], 0, rfl, .nil⟩ ?_ ?_
  · intro i tt m₁ nx o' h tk own hi off _ ⟨hm, its, e, hnx, hia⟩ ho' F N
    subst hm hnx
    clear lF lN rg
    have kMark : KstMark := kstMark
    have e1 : (1 : Int) + (i : Int) = ((i + 1 : Nat) : Int) := by omega
    rw [e1] at ho'
    simp only [List.map_cons, List.map_nil] at off
    simp only [List.cons_append, List.nil_append] at N
    try dsimp only
    change wpAny _ _ _ _ _ _
    k_fold
    iterate 11 (first | (k_unfold; (try dsimp only)) | (k_end; wrow_close) | walk1 | (dsimp only; walk1))
    rename Fr _ _ _ _ => F1
    rename News _ _ _ _ => N1
    refine LCg.ListComp_U (F₀ := F1) (by with_unfolding_all rfl) (by decide) (by rfl) (by decide) (by rfl) ?_
    change wpAny _ _ _ _ _ _
    k_fold
    iterate 7 (first | (k_unfold; (try dsimp only)) | (k_end; wrow_close) | walk1 | (dsimp only; walk1))
    rename Fr _ _ _ _ => F2
    rename News _ _ _ _ => N2
    rename IsRange _ _ _ _ _ _ _ _ => rg
    refine LCg.CompSrc.range (n := ns.length) rfl F2 N2 rg (small_one (by omega) (by omega) (by omega) (by omega)) (by rw [rangeSize_nat]; omega) (by rw [sizeLine_eq]; omega) fun gh => ?_
    refine comp_ints (f := fun p => ns.getD p 0 * ns.getD ((p + (i + 1)) % ns.length) 0) (fun j ys v I oI C oC D m₂ hh tk E' hj hP hC hx F N => ?_) fun ys hi => ?_
    · obtain ⟨tj, rfl⟩ := hP
      have ej : (0 : Int) + (j : Int) = (j : Int) := by omega
      rw [ej] at hx
      clear F2 N2 rg
      try dsimp only
      change wpAny _ _ _ _ _ _
      k_fold
      iterate 4 (first | (k_unfold; (try dsimp only)) | (k_end; wrow_close) | walk1 | (dsimp only; walk1))
      refine by_item hb (by omega) (by omega) (by omega) ?_
      rw [Int.toNat_natCast]
      iterate 8 (first | (k_unfold; (try dsimp only)) | (k_end; wrow_close) | walk1 | (dsimp only; walk1))
      walk1
      have em : ((j : Int) + ((i + 1 : Nat) : Int)).fmod (ns.length : Int) = (((j + (i + 1)) % ns.length : Nat) : Int) := by rw [← Int.natCast_add, fmod_nat]
      have lm : (j + (i + 1)) % ns.length < ns.length := Nat.mod_lt _ hl1
      rw [em]
      try dsimp only
      refine by_item hb (by omega) (by omega) (by omega) ?_
      rw [Int.toNat_natCast]
      have b9 : ∀ z : Nat, z < ns.length → 0 ≤ ns.getD z 0 ∧ ns.getD z 0 < 256 := fun z hz => by
        rw [List.getD_eq_getElem?_getD, List.getElem?_eq_getElem hz]; exact hb _ (List.getElem_mem hz)
      obtain ⟨b1, b2⟩ := b9 j hj
      skip
      refine mul_int ?_ (.of_left (intBits_le_64 (by omega) (by omega)))
      try dsimp only
      first
      | exact ⟨_, _, _, rfl, rfl, F, N⟩
      | (k_unfold; dsimp only; exact ⟨_, _, _, rfl, rfl, F, N⟩)
    · intro D hd tkd Fd Nd offd
      clear F2 N2 rg
      try dsimp only
      iterate 1 (first | (k_unfold; (try dsimp only)) | (k_end; wrow_close) | walk1 | (dsimp only; walk1))
      refine LSm.sum_ints Fd Nd rfl ⟨_, (Nd _ (.head _)).1, rfl, _, rfl⟩ hi ?_
      intro h8 tk8 t8 F8 N8
      clear Fd Nd
      have Dne : D ≠ l1 := Ne.symm offd.2.1
      try dsimp only at F8 N8 ⊢
      iterate 1 (first | (k_unfold; (try dsimp only)) | (k_end; wrow_close) | walk1 | (dsimp only; walk1))
      rename Fr _ _ _ _ => F3
      rename News _ _ _ _ => N3
      have off1 : ∀ q ∈ own, q.1 ≠ l1 := fun q hq => off q hq _ (.tail _ (.head _))
      refine append_K F3 N3 (Upd.tail Dne (Upd.tail (Ne.symm (eL _ (.head _))) (Upd.head fun q hq => ?_))) (fun h4 F4 N4 => ?_) (by rw [List.size_toArray, hia.length, cmnF_len, sizeLine_eq]; omega)
      · rcases List.mem_cons.mp hq with rfl | hq
        · exact Nat.ne_of_lt (lt1 _ (.tail _ (.head _)))
        · rcases List.mem_cons.mp hq with rfl | hq
          · exact Nat.ne_of_lt (lt1 _ (.tail _ (.tail _ (.head _))))
          · exact off1 q hq
      rw [List.push_toArray] at N4
      clear F3 N3
      try dsimp only at F4 N4 ⊢
      iterate 3 (first | (k_unfold; (try dsimp only)) | (k_end; wrow_close) | walk1 | (dsimp only; walk1))
      refine InvEndN.intro (nx := [(L' + 1 + 1 + 1, o'), (l1, listOf (its ++ [Value.int (cmnAt ns (i + 1)) t8]).toArray (e + 1)), (L' + 1 + 1, o2'), (L' + 1, o3)]) F4 N4 ⟨_, _, _, rfl, ho', rfl, _, _, rfl, ?_⟩ rfl (fun q hq => ?_) fun q hq => .tail _ (.tail _ (.tail _ (.tail _ (.tail _ hq))))
      · rw [cmnF_succ]
        exact hia.append (.cons _ _ .nil)
      · rcases List.mem_cons.mp hq with rfl | hq
        · exact .tail _ (.head _)
        · rcases List.mem_cons.mp hq with rfl | hq
          · exact .tail _ (.tail _ (.head _))
          · rcases List.mem_cons.mp hq with rfl | hq
            · exact .tail _ (.tail _ (.tail _ (.head _)))
            · rw [List.mem_singleton.mp hq]
              exact .tail _ (.tail _ (.tail _ (.tail _ (.head _))))
  · intro h tk m₁ nx o' v' F N _ ⟨hm, its, e, hnx, hia⟩
    subst hm hnx
    clear lF lN rg
    try dsimp only
    iterate 3 (first | (k_unfold; (try dsimp only)) | (k_end; wrow_close) | walk1 | (dsimp only; walk1))
    dsimp only
    exact ret _ _ _ h _ (xt.1.trans fun b o _ e => F.keep b o e) (none_of xt.1 (N _ (.tail _ (.head _))).2.2) (N _ (.tail _ (.head _))).1 hia

end
end Mine

-- part CApp
namespace Mine
section
variable {M : Model} {A : Around} {s : Shared} {env : Env}
/-- the first statements over all stacks, the rest over clean ones; with the tokens' floor -/
theorem wpC_app {T0 : Nat} {pre rest : List Stmt} {Q : Flow → Shared → Prop} (hT : T0 ≤ s.toks)
    (h : wpAny M A (execs pre env) (fun f s' => T0 ≤ s'.toks → match f with | .next => wpC M A (execs rest env) Q s' | f => Q f s') (fun _ _ => False) s) : wpC M A (execs (pre ++ rest) env) Q s := fun Γ p hΓ hc => by
  have h1 := wpAny_with_toks hT (wpAny_mono h (fun _ _ x => x) fun _ _ e _ => e) Γ p hΓ
  refine wp_app rest pre p s (Sem.wp_mono M Γ _ (fun f p' s' h' => ?_) (fun _ _ _ h' => h') _ _ h1)
  cases f with
  | next => exact h' Γ p' hΓ hc
  | _ => exact h'
end
end Mine

-- part Pf
namespace Mine
/-- the plain law: what the walk asks of the numbers -/
structure PF (c n ta st W : Nat) : Prop where
  hx : Builtin.Int.intBits ((ta + 2 ^ c : Nat) : Int) = c + 1
  hA : rowF (dv 1 ((digN 1 (ta + 2 ^ c) (c + 1)).reverse.take c)) c (dv 1 ((rowF ta c st n).reverse.take c)) n = (rowF ta c st n).reverse
  hB : ∀ nb a m : Nat, nb = Builtin.Int.intBits ((2 ^ (W * n) - 1 : Nat) : Int) → (a : Int) = dv W (rowF ta c st n) * dv W (rowF ta c st n).reverse →
    m = (qrF (2 ^ (W * n) - 1) nb (digN nb a ((Builtin.Int.intBits (a : Int) + nb - 1) / nb)).reverse).2 → digN W m ((Builtin.Int.intBits (m : Int) + W - 1) / W) = cmnF (rowF ta c st n) n
  hC : decide (cmnF (rowF ta c st n) n = List.replicate (n - 1) ((2 : Int) ^ (c - 2)) ++ [2 * (2 : Int) ^ (c - 2)]) = decide (cnt st (statesF ta c st n) = 1)
def PL : Prop := ∀ c n ta st W : Nat, 3 ≤ c → c ≤ 4 → n = 2 ^ c - 1 → 1 ≤ st → st ≤ n → ta < 2 ^ c → ta % 2 = 1 → 5 ≤ W → W ≤ 34 → PF c n ta st W
end Mine

-- part Lb
namespace Mine
section
variable {α : Type} {M : Model} {A : Around} {s : Shared}
theorem wpC_with_toks {t : Sem α} {Q : α → Shared → Prop} {n : Nat} (hn : n ≤ s.toks) (h : wpC M A t (fun a s' => n ≤ s'.toks → Q a s') s) : wpC M A t Q s := fun Γ p hΓ hc =>
  Sem.wp_mono M Γ t (fun _ _ _ x => x.2 x.1) (fun _ _ _ x => x.2) p s (Sem.wp_toks M Γ n t _ _ p s hn (h Γ p hΓ hc))
end
section
variable {prog : Program} {w : World} {A : Around} {E : Value → Shared → Prop} {s : Shared} {b : Array UInt8} {t : Tok}
theorem hint_bytes {Q : Bool → Shared → Prop} (h : Q false s) : wpAny (model prog w) A (Builtin.List.listLengthHint (.bytes b t)) Q E s := by
  unfold Builtin.List.listLengthHint
  refine wpAny_bind (wpAny_specialOf (typeIs_bytes s b t) FB.slot_bytes_len.lookup ?_)
  generalize hid : ("bytes.__len__" : String) = id0
  wp_delta
  rw [show splitId id0 = some ("bytes", "__len__") from by subst hid; decide +kernel]
  subst hid
  refine wpAny_bind (wpAny_isInstance (T := "bytes") (b := true) (typeIs_bytes s b t) (by rw [isSubtype_type]; kernel_rfl) ?_)
  refine wpAny_ite_split (fun hab => absurd hab (by decide)) (fun _ => ?_)
  refine wpAny_ite_split (fun _ => ?_) (fun hab => absurd (by decide +kernel) hab)
  exact wpAny_bind (wpAny_typeOf (typeIs_bytes s b t) (wpAny_pure h))

def BIt (b : Array UInt8) (i : Nat) (v : Value) : Prop := ∃ c u, b[i]? = some c ∧ v = .int (c.toNat : Int) u
theorem extend_bytes {R : Result → Shared → Prop} (hh : A.handled = none) (hlen : b.size ≤ sizeLine) (S : Addr) (res : Value) (c₀ : Nat) (hS : s.heap.get? S = some { cls := .type "list", data := .seq #[] c₀ })
    (hR : ∀ h' tk acc' c', (∀ b o, b ≠ S → s.heap.get? b = some o → h'.get? b = some o) → h'.get? S = some { cls := .type "list", dict := none, data := .seq acc' c', slots := #[] } →
      ItemsOf (BIt b) acc' b.size → R (.ok (.ret res)) { s with heap := h', toks := tk }) :
    wpAny (model prog w) A.in1 (Builtin.List.listExtendWith (.ref S) (.bytes b t) res)
      (fun fin s' => match fin with | .done f => R (.ok f) s' | .again c' => c'.quiet = true ∧ codeAny (model prog w) A c' R s') (fun e s' => R (.error e) s') s := by
  have hSlt : S < s.heap.objs.size := Heap.lt_size hS
  have hSI : S ≠ s.heap.objs.size := Nat.ne_of_lt hSlt
  have hSf : S ∉ [s.heap.objs.size] := fun hm => hSI (List.mem_singleton.mp hm)
  have W := (KBw.walks (prog := prog) (w := w) (A := A.in1) hh s.heap.objs.size b t).toS
  unfold Builtin.List.listExtendWith
  refine wpAny_bind (wpAny_typeOf (T := "bytes") (typeIs_bytes s b t) ?_)
  have h1 : Builtin.List.listSameRef (.ref S) (.bytes b t) = false := rfl
  have h2 : (Value.type "bytes" == Value.type "list") = false := by decide
  have h3 : (Value.type "bytes" == Value.type "tuple") = false := by decide
  simp only [h1, h2, h3, Bool.or_false, Bool.false_eq_true, if_false]
  refine wpAny_bind (KBw.pyIter_bytes ?_)
  refine wpAny_bind (wpAny_holding (hint_bytes ?_))
  refine wpAny_ite_split (fun hab => absurd hab (by decide +kernel)) (fun _ => wpAny_pure ⟨plainId_quiet F.plain_extend_loop _, ?_⟩)
  refine codeAny_extend_loopS W hlen S hSf res b.size 0 _ #[] c₀ rfl (Nat.zero_le _) ⟨_, Heap.get?_push_size _ rfl, rfl, rfl⟩ (Heap.get?_push_of_some _ hS) (ItemsOf.nil _) fun s' acc' c' hm hS' hacc => ?_
  rw [Moved.eq_with hm]
  refine hR s'.heap s'.toks acc' c' (fun b o hb e => hm.heap b o (fun hmem => ?_) (Heap.get?_push_of_some _ e)) hS' hacc
  rcases List.mem_cons.mp hmem with e' | hmem
  · exact hb e'
  · exact absurd (Heap.lt_size e) (by rw [List.mem_singleton.mp hmem]; exact Nat.lt_irrefl _)

theorem list_init_bytes {R : Result → Shared → Prop} (hh : A.handled = none) (hlen : b.size ≤ sizeLine) (S : Addr) (hS : s.heap.get? S = some { cls := .type "list", data := .seq #[] })
    (hR : ∀ h' tk acc' c', (∀ b o, b ≠ S → s.heap.get? b = some o → h'.get? b = some o) → h'.get? S = some { cls := .type "list", dict := none, data := .seq acc' c', slots := #[] } →
      ItemsOf (BIt b) acc' b.size → R (.ok (.ret .none)) { s with heap := h', toks := tk }) :
    wpAny (model prog w) A.in1 (Builtin.«list.__init__» ⟨[.ref S, .bytes b t], []⟩)
      (fun fin s' => match fin with | .done f => R (.ok f) s' | .again c' => c'.quiet = true ∧ codeAny (model prog w) A c' R s') (fun e s' => R (.error e) s') s := by
  show wpAny _ _ (do let old ← Builtin.List.listItems (.ref S); Builtin.List.listUpdate (.ref S) (fun _ => #[]); letGo old.toList.reverse; Builtin.List.listExtendWith (.ref S) (.bytes b t) .none) _ _ s
  refine wpAny_bind ?_
  unfold Builtin.List.listItems
  refine wpAny_bind (wpAny_seqItems hS rfl (wpAny_pure ?_))
  show wpAny _ _ (updateSeq S (fun _ => #[]) >>= fun _ => letGo (#[] : Array Value).toList.reverse >>= fun _ => Builtin.List.listExtendWith (.ref S) (.bytes b t) .none) _ _ s
  refine wpAny_bind (wpAny_updateSeq hS rfl ?_)
  have hS₂ := Heap.get?_update_self (Obj.mapSeq (fun _ => (#[] : Array Value))) hS rfl
  have oth : ∀ b o, b ≠ S → s.heap.get? b = some o → (s.heap.update S (Obj.mapSeq (fun _ => (#[] : Array Value)))).get? b = some o :=
    fun b o hb e => (Heap.get?_update_other _ _ (Ne.symm hb)).trans e
  refine wpAny_bind (wpAny_letGo ?_)
  refine extend_bytes hh hlen S .none _ hS₂ fun h' tk acc' c' hk hS' hacc => ?_
  exact hR h' tk acc' c' (fun b o hb e => hk b o hb (oth b o hb e)) hS' hacc

theorem call_list_bytes {Q : Value → Shared → Prop} (hh : A.handled = none) (hlen : b.size ≤ sizeLine)
    (hQ : ∀ h' tk acc' c', (∀ b o, s.heap.get? b = some o → h'.get? b = some o) →
      h'.get? s.heap.objs.size = some { cls := .type "list", dict := none, data := .seq acc' c', slots := #[] } → ItemsOf (BIt b) acc' b.size → Q (.ref s.heap.objs.size) { s with heap := h', toks := tk }) :
    wpAny (model prog w) A (call (.type "list") [.bytes b t]) Q E s := by
  refine callType_codes (Q₁ := fun obj s₁ => obj = .ref s.heap.objs.size ∧ s₁ = { s with heap := s.heap.push { cls := .type "list", data := .seq #[] } }) F.called_list (F.typeCall_list_1 _) F.entry_list_init
    (code_list_new _ ⟨rfl, rfl⟩) fun obj s₁ h₁ => ?_
  obtain ⟨rfl, rfl⟩ := h₁
  have hS : (s.heap.push { cls := .type "list", data := .seq #[] }).get? s.heap.objs.size = some { cls := .type "list", data := .seq #[] } := Heap.get?_push_size _ rfl
  refine ⟨⟨_, hS, rfl⟩, F.args_list_init_2 _ _, list_init_bytes (A := A.in1) hh hlen _ hS fun h' tk acc' c' hk hS' hacc => ?_⟩
  exact ⟨rfl, hQ h' tk acc' c' (fun b o e => hk b o (Nat.ne_of_lt (Heap.lt_size e)) (Heap.get?_push_of_some _ e)) hS' hacc⟩

theorem ints_of_items : ∀ (vs : List Value) (ns : List Int), vs.length = ns.length → (∀ (j : Nat) (v : Value), vs[j]? = some v → ∃ n u, ns[j]? = some n ∧ v = .int n u) → IntsAre vs ns
  | [], [], _, _ => .nil
  | [], _ :: _, e, _ => by cases e
  | _ :: _, [], e, _ => by cases e
  | v :: r, n :: ns, e, h => by
    obtain ⟨n', u, e1, rfl⟩ := h 0 v rfl
    cases e1
    exact .cons _ _ (ints_of_items r ns (Nat.succ.inj e) fun j v hj => h (j + 1) v hj)
/-- list(bytes): the list of the octets -/
theorem list_bytes {ns : List Int} {h₀ : Heap} {L : Addr} {m : Str → Option Value} {news : List (Addr × Obj)} {Q : Value → Shared → Prop} (hh : A.handled = none) (F : Fr h₀ L s.heap m) (N : News h₀ L s.heap news) (hb : ∀ n ∈ ns, 0 ≤ n ∧ n < 256) (hl : ns.length ≤ 1000)
    (h : ∀ D us c h' tk, Fr h₀ L h' m → News h₀ L h' ((D, listOf (List.toArray us) c) :: news) → (∀ p ∈ news, p.1 < D) → IntsAre us ns → Q (.ref D) { s with heap := h', toks := tk }) :
    wpAny (model prog w) A (call (.type "list") [.bytes (byteArr ns) t]) Q E s := by
  refine call_list_bytes hh (by rw [byteArr_size, sizeLine_eq]; omega) fun h' tk acc c hk hD hI => ?_
  have hD' : h'.get? s.heap.objs.size = some (listOf (List.toArray acc.toList) c) := by
    rw [Array.toArray_toList]
    exact hD
  refine h _ acc.toList c h' tk (F.keeps hk) (news_pushed F N hk hD' rfl) (fun p hp => Heap.lt_size (N p hp).1) (ints_of_items _ _ (by rw [Array.length_toList, hI.1, byteArr_size]) fun j v hj => ?_)
  obtain ⟨c, u, e1, rfl⟩ := hI.2 j v (by rw [← hj, Array.getElem?_toList])
  have hjl : j < ns.length := by
    have := (Array.getElem?_eq_some_iff.mp e1).1
    rw [byteArr_size] at this
    exact this
  have e2 : (byteArr ns)[j]? = some (ns[j].toNat.toUInt8) := by simp [byteArr, hjl]
  rw [e2] at e1
  cases e1
  obtain ⟨b0, b1⟩ := hb _ (List.getElem_mem hjl)
  exact ⟨ns[j], u, List.getElem?_eq_getElem hjl, by rw [byte_back b0 b1]⟩
end
end Mine
namespace Mine
section
variable {prog : Program} {w : World} {A : Around} {E : Value → Shared → Prop} {s : Shared} {value slice : PySem.Expr} {t : Tok} {h₀ : Heap} {L : Addr} {m : PySem.Str → Option Value} {news : List (Addr × Obj)} {Q : Value → Shared → Prop}
theorem picked_take {ns : List Int} {c : Nat} : KBy.picked (byteArr ns) none (some (c : Int)) = byteArr (ns.take c) := by
  rw [KBc.picked_eq]
  show (List.take (clipAt (byteArr ns).size (c : Int) - 0) (List.drop 0 (byteArr ns).toList)).toArray = _
  rw [clipAt_nat, byteArr_size, List.drop_zero, Nat.sub_zero]
  unfold byteArr
  rw [List.map_take]
  show (List.take (min c ns.length) (List.map _ ns)).toArray = _
  congr 1
  by_cases h : c ≤ ns.length
  · rw [Nat.min_eq_left h]
  · rw [Nat.min_eq_right (by omega), List.take_of_length_le (by simp), List.take_of_length_le (by simp; omega)]
theorem by_slice {ns : List Int} {c : Nat} {u : Tok} (hF : Fr h₀ L s.heap m) (hN : News h₀ L s.heap news) (hl : ns.length ≤ 1000) (hb : ∀ n ∈ ns, 0 ≤ n ∧ n < 256)
    (h : ∀ h' t' k, Fr h₀ L h' m → News h₀ L h' news → Q (.bytes (byteArr (ns.take c)) t') { s with heap := h', toks := k })
    (hs : subscripted slice false (.bytes (byteArr ns) t) (.ref s.heap.objs.size) = operate [.ref s.heap.objs.size, .bytes (byteArr ns) t] (getItem (.bytes (byteArr ns) t) (.ref s.heap.objs.size)) := by with_unfolding_all rfl)
    (ht : ∀ r, letTemporaryGo value (.bytes (byteArr ns) t) r = pure () := by intro _; with_unfolding_all rfl) :
    wpAny (model prog w) A (subscriptTail value slice (.bytes (byteArr ns) t) (.ref s.heap.objs.size)) Q E { s with heap := s.heap.push { cls := .type "slice", data := .fields #[.none, .int c u, .none] } } :=
  KBc.slice_K hF hN (KBa.ints_make hb) .none (.int _ _) (by omega) (fun h' t' k F N _ => by rw [picked_take]; exact h h' t' k F N) hs ht
end
end Mine
namespace Mine
section
variable {P L : Addr} {line col : Int} {qual : Str} {g h : Heap} {m : Str → Option Value}
theorem TabIn.part2 (x : TabIn P line col qual h) (F : Fr g L h m) (hP : g.get? P = none) (hPL : P ≠ L) :
    ∃ o₁ a₁ p₁, News g L h [(P, o₁), (a₁, p₁)] ∧ (a₁ = P ∨ 136 < a₁) ∧ ∀ h'', (∀ b o, g.get? b = some o → h''.get? b = some o) → h''.get? P = some o₁ → h''.get? a₁ = some p₁ → TabIn P line col qual h'' := by
  obtain ⟨c', x, hc, c, o, vs, t, e1, e2, r⟩ := x
  cases e1
  by_cases hg : g.get? c' = none
  · have cL : c' ≠ L := fun q => by
      obtain ⟨oL, mL, _, eL, dL, _⟩ := F.ns
      rw [← q, e2] at eL
      cases eL
      rw [r.1] at dL
      cases dL
    refine ⟨_, c', o, fun q hq => ?_, .inr hc, fun h'' _ k1 k2 => ⟨c', k1, hc, c', o, vs, t, rfl, k2, r⟩⟩
    rcases List.mem_cons.mp hq with rfl | hq
    · exact ⟨x, hPL, hP⟩
    · rw [List.mem_singleton.mp hq]; exact ⟨e2, cL, hg⟩
  · obtain ⟨o', ho'⟩ := Option.ne_none_iff_exists'.mp hg
    have := F.keep _ _ ho'
    rw [e2] at this; cases this
    refine ⟨_, P, tabObj #[rawInt line, rawInt col, .ref c'], fun q hq => ?_, .inl rfl, fun h'' hk k1 _ => ⟨c', k1, hc, c', o, vs, t, rfl, hk _ _ ho', r⟩⟩
    rcases List.mem_cons.mp hq with rfl | hq
    · exact ⟨x, hPL, hP⟩
    · rw [List.mem_singleton.mp hq]; exact ⟨x, hPL, hP⟩
theorem Tab.part2 (x : Tab P line col qual h) (F : Fr g L h m) (hP : g.get? P = none) (hPL : P ≠ L) :
    ∃ o₁ a₁ p₁, News g L h [(P, o₁), (a₁, p₁)] ∧ (a₁ = P ∨ 136 < a₁) ∧ ∀ h'', (∀ b o, g.get? b = some o → h''.get? b = some o) → h''.get? P = some o₁ → h''.get? a₁ = some p₁ → Tab P line col qual h'' := by
  rcases x with e | y
  · refine ⟨_, P, tabObj #[], fun q hq => ?_, .inl rfl, fun h'' _ k1 _ => .inl k1⟩
    rcases List.mem_cons.mp hq with rfl | hq
    · exact ⟨e, hPL, hP⟩
    · rw [List.mem_singleton.mp hq]; exact ⟨e, hPL, hP⟩
  · obtain ⟨o₁, a₁, p₁, N, ha, k⟩ := TabIn.part2 (x := y) F hP hPL
    exact ⟨o₁, a₁, p₁, N, ha, fun h'' k0 k1 k2 => (k h'' k0 k1 k2).tab⟩
theorem News.join {a b : List (Addr × Obj)} (x : News g L h a) (y : News g L h b) : News g L h (a ++ b) := fun q hq => (List.mem_append.mp hq).elim (x q) (y q)
end
end Mine
namespace Mine
section
variable {prog : Program} {w : World} {A : Around} {E : Value → Shared → Prop} {s : Shared} {h₀ : Heap} {L : Addr} {m : PySem.Str → Option Value} {news : List (Addr × Obj)} {Q : Value → Shared → Prop}
theorem mk_bytes {l : Addr} {vs : List Value} {ns : List Int} (F : Fr h₀ L s.heap m) (N : News h₀ L s.heap news) (hl : s.heap.IsList l vs.toArray) (hi : IntsAre vs ns) (hr : ∀ n ∈ ns, 0 ≤ n ∧ n < 256) (hz : ns.length ≤ 1000) (hh : A.handled = none)
    (h : ∀ h' t k, Fr h₀ L h' m → News h₀ L h' news → Q (.bytes (byteArr ns) t) { s with heap := h', toks := k }) : wpAny (model prog w) A (call (.type "bytes") [.ref l]) Q E s :=
  bytes_K F N hl hi hr (by rw [hi.length, sizeLine_eq]; omega) hh fun h' t k F N _ => h h' t k F N
end
end Mine

-- part Pg
namespace Mine
theorem dv_nonneg {n : Nat} : ∀ {l : List Int}, (∀ d ∈ l, 0 ≤ d ∧ d < 256) → 0 ≤ dv n l
  | [], _ => Int.le_refl 0
  | d :: r, h => Int.add_nonneg (h d (.head _)).1 (Int.mul_nonneg (Int.pow_nonneg (by decide)) (dv_nonneg fun x hx => h x (.tail _ hx)))
theorem dv_533 {w n : Nat} {l : List Int} (hw : w ≤ 34) (hn : l.length ≤ 15) (h : ∀ d ∈ l, 0 ≤ d ∧ d < 256) : (dv w l).natAbs < 2 ^ 533 := by
  have := dv_bound (n := w) (K := 8) (l := l) fun d hd => by
    have := h d hd
    omega
  refine Nat.lt_of_lt_of_le this (Nat.pow_le_pow_right (by decide) ?_)
  have : (w + 1) * l.length ≤ 35 * 15 := Nat.mul_le_mul (by omega) hn
  omega
/-- the division's numbers -/
structure Big (w n a : Nat) : Prop where
  a2000 : a < 2 ^ 2000
  abits : Builtin.Int.intBits (a : Int) ≤ 1066
  wn0 : 35 ≤ w * n
  wn1 : w * n ≤ 510
  b0 : 0 < 2 ^ (w * n) - 1
  nb0 : w * n ≤ Builtin.Int.intBits ((2 ^ (w * n) - 1 : Nat) : Int)
  nb1 : Builtin.Int.intBits ((2 ^ (w * n) - 1 : Nat) : Int) ≤ w * n
  k40 : (Builtin.Int.intBits (a : Int) + Builtin.Int.intBits ((2 ^ (w * n) - 1 : Nat) : Int) - 1) / Builtin.Int.intBits ((2 ^ (w * n) - 1 : Nat) : Int) ≤ 40
theorem big {w n a : Nat} (hw0 : 5 ≤ w) (hw : w ≤ 34) (hn0 : 7 ≤ n) (hn : n ≤ 15) (ha : a < 2 ^ 1066) : Big w n a := by
  have q0 : 35 ≤ w * n := Nat.le_trans (show 35 ≤ 5 * 7 by decide) (Nat.mul_le_mul hw0 hn0)
  have q1 : w * n ≤ 510 := Nat.le_trans (Nat.mul_le_mul hw hn) (by decide)
  have ab : Builtin.Int.intBits (a : Int) ≤ 1066 := intBits_le (by rw [Int.natAbs_natCast]; exact ha)
  have p1 : 1 < 2 ^ (w * n) := Nat.one_lt_two_pow (by omega)
  obtain ⟨b, hb⟩ : ∃ b, b = 2 ^ (w * n) - 1 := ⟨_, rfl⟩
  have n0 : w * n ≤ Builtin.Int.intBits (b : Int) := by
    have h := lt_bits b
    refine (Nat.pow_le_pow_iff_right (a := 2) (by decide)).mp ?_
    omega
  have n1 : Builtin.Int.intBits (b : Int) ≤ w * n := intBits_le (by rw [Int.natAbs_natCast]; omega)
  refine ⟨Nat.lt_of_lt_of_le ha (Nat.pow_le_pow_right (by decide) (by decide)), ab, q0, q1, by omega, by rw [← hb]; exact n0, by rw [← hb]; exact n1, ?_⟩
  rw [← hb]
  refine Nat.le_of_lt_succ (Nat.div_lt_of_lt_mul ?_)
  omega
theorem prod_nat {w : Nat} {l : List Int} (hw : w ≤ 34) (hn : l.length ≤ 15) (h : ∀ d ∈ l, 0 ≤ d ∧ d < 256) :
    IntMulOk (dv w l) (dv w l.reverse) ∧ ∃ a : Nat, dv w l * dv w l.reverse = (a : Int) ∧ a < 2 ^ 1066 := by
  have hr : ∀ d ∈ l.reverse, 0 ≤ d ∧ d < 256 := fun d hd => h d (List.mem_reverse.mp hd)
  have b1 := dv_533 (n := 0) hw hn h
  have b2 := dv_533 (n := 0) hw (by rw [List.length_reverse]; exact hn) hr
  refine ⟨.of_le (intBits_le b1) (intBits_le b2) (by decide), ?_⟩
  obtain ⟨a, ha⟩ := Int.eq_ofNat_of_zero_le (Int.mul_nonneg (dv_nonneg (n := w) h) (dv_nonneg (n := w) hr))
  refine ⟨a, ha, ?_⟩
  have e : (dv w l * dv w l.reverse).natAbs = a := by rw [ha, Int.natAbs_natCast]
  rw [Int.natAbs_mul] at e
  rw [← e, show (1066 : Nat) = 533 + 533 from rfl, Nat.pow_add]
  exact Nat.mul_lt_mul'' b1 b2
theorem qr_lt {w n a k nb : Nat} (B : Big w n a) (hnb : nb = Builtin.Int.intBits ((2 ^ (w * n) - 1 : Nat) : Int)) : (qrF (2 ^ (w * n) - 1) nb (digN nb a k).reverse).2 < 2 ^ (w * n) - 1 := by
  have hb := lt_bits (2 ^ (w * n) - 1)
  rw [← hnb] at hb
  have h := (qr_ok (b := 2 ^ (w * n) - 1) (n := nb) B.b0 (Nat.le_of_lt hb) (by rw [hnb]; exact Nat.le_trans B.nb1 (by have := B.wn1; omega)) (ds := (digN nb a k).reverse) (fun d hd => digN_dig d (List.mem_reverse.mp hd)) _ (Nat.le_refl _) _ rfl).1
  rw [List.take_length] at h
  exact h
end Mine

-- part Lh
namespace Mine
section
variable {prog : Program} {w : World} {A : Around} {E : Value → Shared → Prop} {s : Shared} {p : Program} {loose : List Str} {mean : ExcName → Option Value} {mg mb : Str → Option Value} {G : Heap}
theorem lh_spec {number : Int} {t : Tok} {Q : Value → Shared → Prop} (D : Gd w p loose mean mg mb G) (hG : ∀ b o, G.get? b = some o → s.heap.get? b = some o) (h37 : G.get? 37 = none) (h44 : G.get? 44 = none) (r : Rm 60 A)
    (hT1 : Tab 37 39 4 qI s.heap) (hT2 : Tab 44 54 4 qD s.heap) (hPL : PL) (hn0 : 0 ≤ number) (hn1 : number < 1000000)
    (ret : ∀ h' tk, Ext [37, 44] s.heap h' → Tab 37 39 4 qI h' → Tab 44 54 4 qD h' → Q (.bool true) { s with heap := h', toks := tk }) :
    wpC (model prog w) A (call (.ref 131) [.int number t]) Q s := by
  obtain ⟨hd, dp, fr, gd, un⟩ := A
  obtain rfl : hd = none := r.hh
  have rd := r.dp
  have ru := r.un
  dsimp only at rd ru
  refine' callKD (binds := [(Str.ofString "number", .int number t)]) [37, 44] D hG (by simp [h37, h44]) r.room ?ko ?kc (BindsTo.of_eq ?kb) ?kloc ?_ ?kcell ?c2 ?c3 ?c4
  case ko => k_is
  case kc => k_is
  case kb => rfl
  case kloc => exact locs rfl
  case kcell => decide
  case c2 => rfl
  case c3 => rfl
  case c4 => rfl
  intro g L' h₁ Dg lt xt wt F old X T
  simp only [List.reverse_cons, List.reverse_nil, List.nil_append, List.cons_append, List.length_cons, List.length_nil] at F ⊢
  have N : News g L' h₁ [] := News.nil
  try dsimp only

  have Gg : ∀ b o, G.get? b = some o → g.get? b = some o := fun b o e => xt.1 b o (fun q => by
    rcases List.mem_cons.mp q with rfl | q
    · rw [h37] at e; cases e
    · rw [List.mem_singleton.mp q, h44] at e; cases e) (hG b o e)
  have r0 := r
  have lt37 : 37 < L' := by
    obtain ⟨o, ho⟩ := hT1.get
    exact lt _ _ ho
  have lt44 : 44 < L' := by
    obtain ⟨o, ho⟩ := hT2.get
    exact lt _ _ ho
  obtain ⟨o₁, a₁, p₁, M1, ha1, kT1⟩ := Tab.part2 (x := Tab.ext (W := []) hT1 (fun b o _ e => old b o e) (by simp) (by simp)) F (wt _ (.head _)) (Nat.ne_of_lt lt37)
  obtain ⟨o₂, a₂, p₂, M2, ha2, kT2⟩ := Tab.part2 (x := Tab.ext (W := []) hT2 (fun b o _ e => old b o e) (by simp) (by simp)) F (wt _ (.tail _ (.head _))) (Nat.ne_of_lt lt44)
  replace N : News g L' h₁ [(37, o₁), (a₁, p₁), (44, o₂), (a₂, p₂)] := News.join M1 M2
  clear M1 M2
  refine wpC_app (T0 := s.toks + 1) (pre := [_]) (rest := [_, _, _, _, _, _, _, _, _, _, _, _, _, _]) (by simp) ?_
  change wpAny _ _ _ _ _ _
  k_fold
  iterate 29 (first | (k_unfold; (try dsimp only)) | (k_end; wrow_close) | walk1 | (dsimp only; walk1))
  obtain ⟨c, hc⟩ : ∃ c, c = 3 + number.fmod 2 := ⟨_, rfl⟩
  obtain ⟨hf, hhf⟩ : ∃ hf, hf = number.fdiv 2 := ⟨_, rfl⟩
  rename Fr _ _ _ _ => F1
  rename News _ _ _ _ => N1
  rw [← hc, ← hhf] at F1 N1
  intro hT
  dsimp only at hT ⊢
  have hc1 : 3 ≤ c ∧ c ≤ 4 := by
    rw [hc, Int.fmod_eq_emod_of_nonneg _ (by decide)]; omega
  have hh1 : 0 ≤ hf ∧ hf < 1000000 := by
    rw [hhf, Int.fdiv_eq_ediv_of_nonneg _ (by decide)]; omega
  obtain ⟨P1, hP1⟩ : ∃ P1 : Int, P1 = 2 ^ (c - 1).toNat := ⟨_, rfl⟩
  obtain ⟨P2, hP2⟩ : ∃ P2 : Int, P2 = 2 ^ c.toNat := ⟨_, rfl⟩
  have hPP : 4 ≤ P1 ∧ P1 ≤ 8 ∧ P2 = 2 * P1 := by
    have : c = 3 ∨ c = 4 := by omega
    rcases this with rfl | rfl <;> subst hP1 hP2 <;> decide
  refine wpC_app (T0 := s.toks + 1) (pre := [_, _]) (rest := [_, _, _, _, _, _, _, _, _, _, _, _]) hT ?_
  change wpAny _ _ _ _ _ _
  k_fold
  iterate 14 (first | (k_unfold; (try dsimp only)) | (k_end; wrow_close) | walk1 | (dsimp only; walk1))
  refine pow_int_small (by omega) (by omega) (by decide) ?_
  rw [← hP1]
  skip
  refine mod_int (by omega) ?_
  iterate 2 (first | (k_unfold; (try dsimp only)) | (k_end; wrow_close) | walk1 | (dsimp only; walk1))
  walk1
  iterate 13 (first | (k_unfold; (try dsimp only)) | (k_end; wrow_close) | walk1 | (dsimp only; walk1))
  refine pow_int_small (by omega) (by omega) (by decide) ?_
  rw [← hP1]
  iterate 5 (first | (k_unfold; (try dsimp only)) | (k_end; wrow_close) | walk1 | (dsimp only; walk1))
  refine pow_int_small (by omega) (by omega) (by decide) ?_
  rw [← hP2]
  iterate 2 (first | (k_unfold; (try dsimp only)) | (k_end; wrow_close) | walk1 | (dsimp only; walk1))
  refine mod_int (by omega) ?_
  iterate 1 (first | (k_unfold; (try dsimp only)) | (k_end; wrow_close) | walk1 | (dsimp only; walk1))
  dsimp only
  rename Fr _ _ _ _ => F2
  rename News _ _ _ _ => N2
  dsimp only at F2
  have e9 : ∀ z : Int, 1 + z = 1 + z := fun _ => rfl
  obtain ⟨st, hst⟩ : ∃ st, st = 1 + (hf.fdiv P1).fmod (P2 - 1) := ⟨_, rfl⟩
  obtain ⟨ta, hta⟩ : ∃ ta, ta = 1 + 2 * hf.fmod P1 := ⟨_, rfl⟩
  rw [← hta] at F2
  rw [← hst]
  obtain ⟨u, hu⟩ : ∃ u : Nat, u = tk + 1 + 1 + 1 + 1 + 1 + 1 + 1 + 1 + 1 + 1 + 1 + 1 + 1 + 1 + 1 + 1 + 1 + 1 + 1 + 1 + 1 := ⟨_, rfl⟩
  rw [← hu]
  have hu0 : 0 < u := by omega
  walk1
  refine wpAny_execs_nil ?_
  k_unfold
  dsimp only
  intro _
  rename Fr _ _ _ _ => F3
  rename News _ _ _ _ => N3
  try dsimp only at F3 N3
  refine wpC_app (T0 := u + 1) (pre := [_]) (rest := [_, _, _, _, _, _, _, _, _, _, _]) (by dsimp only; omega) ?_
  change wpAny _ _ _ _ _ _
  k_fold
  iterate 15 (first | (k_unfold; (try dsimp only)) | (k_end; wrow_close) | walk1 | (dsimp only; walk1))
  intro hT5
  dsimp only at hT5 ⊢
  refine wpC_app (T0 := u + 1) (pre := [_]) (rest := [_, _, _, _, _, _, _, _, _, _]) hT5 ?_
  change wpAny _ _ _ _ _ _
  k_fold
  refine wpAny_execs_cons ?_
  iterate 12 (first | (k_unfold; (try dsimp only)) | (k_end; wrow_close) | walk1 | (dsimp only; walk1))
  rename Fr _ _ _ _ => F4
  rename News _ _ _ _ => N4
  refine run_spec D (fun b o e => F4.keep b o (Gg b o e)) (r0.deeper _ |>.less (by decide)) (by omega) fun n T l vs e tb h5 tk5 hn x5 fT fl ltT hT hl hi htok => ?_
  rw [← hP2] at hn
  have N5 := news_add (news_add (news_ext0 N4 x5) F4 hl fl) F4 hT fT
  have F5 := fr_ext0 F4 x5
  have l37 : l ≠ 37 := fun q => by
    dsimp only at fl
    rw [q, (N4 _ (.tail _ (.head _))).1] at fl
    cases fl
  have l44 : l ≠ 44 := fun q => by
    dsimp only at fl
    rw [q, (N4 _ (.tail _ (.tail _ (.tail _ (.head _))))).1] at fl
    cases fl
  clear N4 F4
  have hm1 := Int.emod_nonneg hf (show P1 ≠ 0 by omega)
  have hm2 := Int.emod_lt_of_pos hf (show 0 < P1 by omega)
  have hm3 := Int.emod_nonneg (hf.fdiv P1) (show P2 - 1 ≠ 0 by omega)
  have hm4 := Int.emod_lt_of_pos (hf.fdiv P1) (show 0 < P2 - 1 by omega)
  rw [Int.fmod_eq_emod_of_nonneg _ (by omega)] at hst hta
  obtain ⟨wd, hwd⟩ : ∃ wd, wd = 5 + (number.fdiv 7).fmod 30 := ⟨_, rfl⟩
  rw [← hwd] at F5
  have hm5 := Int.emod_nonneg (number.fdiv 7) (show (30 : Int) ≠ 0 by omega)
  have hm6 := Int.emod_lt_of_pos (number.fdiv 7) (show (0 : Int) < 30 by omega)
  rw [Int.fmod_eq_emod_of_nonneg _ (by omega)] at hwd
  obtain ⟨cn, rfl⟩ : ∃ cn : Nat, c = cn := ⟨c.toNat, by omega⟩
  obtain ⟨tn, rfl⟩ : ∃ tn : Nat, ta = tn := ⟨ta.toNat, by omega⟩
  obtain ⟨sn, rfl⟩ : ∃ sn : Nat, st = sn := ⟨st.toNat, by omega⟩
  obtain ⟨wn, rfl⟩ : ∃ wn : Nat, wd = wn := ⟨wd.toNat, by omega⟩
  have hP3 : P2 = ((2 ^ cn : Nat) : Int) := by rw [hP2, Int.toNat_natCast, Int.natCast_pow]; rfl
  have hnn : n = 2 ^ cn - 1 := by omega
  have htn : tn < 2 ^ cn := by omega
  have pf := hPL cn n tn sn wn (by omega) (by omega) hnn (by omega) (by omega) htn (by omega) (by omega) (by omega)
  obtain ⟨ns, hns⟩ : ∃ ns, ns = rowF tn cn sn n := ⟨_, rfl⟩
  have nl : ns.length = n := by rw [hns, rowF_len]
  have nb : ∀ x ∈ ns, 0 ≤ x ∧ x < 256 := by rw [hns]; exact rowF_bits _ _ _ _
  have pow4 : 2 ^ cn ≤ 16 := by omega
  have c78 : cn = 3 ∧ n = 7 ∨ cn = 4 ∧ n = 15 := by
    rcases (by omega : cn = 3 ∨ cn = 4) with q | q
    · subst q; exact .inl ⟨rfl, hnn⟩
    · subst q; exact .inr ⟨rfl, hnn⟩
  have w34 : 5 ≤ wn ∧ wn ≤ 34 := by omega
  have sn15 : sn ≤ 15 := by omega
  clear hm1 hm2 hm3 hm4 hm5 hm6 hta hst hwd hc hhf hn0 hn1 hh1 hP1 hPP e9 hu
  rw [← hns] at N5
  try dsimp only at F5 N5 ⊢
  iterate 10 (first | (k_unfold; (try dsimp only)) | (k_end; wrow_close) | walk1 | (dsimp only; walk1))
  intro hT6
  dsimp only at hT6 ⊢
  refine wpC_execs_cons (wpC_Assign_Name (wpC_Call_Name ?_))
  walk1
  refine wpC_callE (P := (Mine.hd.heap_39 w.params).In) (keeps_K (by k_is)) ?_
  iterate 9 (first | (k_unfold; (try dsimp only)) | (k_end; wrow_close) | walk1 | (dsimp only; walk1))
  refine len_bytes (by rw [byteArr_size]; omega) ?_
  rw [byteArr_size]
  iterate 1 (first | (k_unfold; (try dsimp only)) | (k_end; wrow_close) | walk1 | (dsimp only; walk1))
  rename Fr _ _ _ _ => F6
  rename News _ _ _ _ => N6
  refine ⟨X.keeps fun b o e => F6.keep b o e, swap_spec D (fun b o e => F6.keep b o (Gg b o e)) (r0.deeper _ |>.less (by decide)) nb (by omega) (by omega) fun ti h7 tk7 x7 => ?_⟩
  have F7 := fr_ext0 F6 x7
  have N7 : News g L' h7 [(l, listOf vs.toArray e), (37, o₁), (a₁, p₁), (44, o₂), (a₂, p₂)] := fun q hq => news_ext0 N6 x7 q (by
    rcases List.mem_cons.mp hq with rfl | hq
    · exact .tail _ (.head _)
    · exact .tail _ (.tail _ (.tail _ hq)))
  clear F6 N6
  try dsimp only at F7 N7 ⊢
  refine wpC_any ?_
  walk1
  dsimp only
  refine wpC_execs_cons (wpC_Assign_Name (wpC_Call_Name ?_))
  walk1
  refine wpC_callE (P := (Mine.hd.heap_39 w.params).In) (keeps_K (by k_is)) ?_
  iterate 14 (first | (k_unfold; (try dsimp only)) | (k_end; wrow_close) | walk1 | (dsimp only; walk1))
  refine pow_int_small (by omega) (by omega) (by decide) ?_
  rw [← hP2, hP3]
  iterate 5 (first | (k_unfold; (try dsimp only)) | (k_end; wrow_close) | walk1 | (dsimp only; walk1))
  rw [← Int.natCast_add]
  rename Fr _ _ _ _ => F8
  rename News _ _ _ _ => N8
  have hx8 := pf.hx
  have Tb8 := kT1 _ (fun b o e => F8.keep b o e) (N8 _ (.tail _ (.head _))).1 (N8 _ (.tail _ (.tail _ (.head _)))).1
  refine i2d_spec (n := 1) (k := cn + 1) D (fun b o e => F8.keep b o (Gg b o e)) h37 (r0.deeper _ |>.less (by decide)) Tb8 ?hx (by omega) (by omega) (by rw [hx8]; omega) (by omega) fun l2 vs2 e2 h9 tk9 x9 tI9 _ f9 hl9 hi9 => ?_
  case hx =>
    have : 2 ^ 5 ≤ 2 ^ 2000 := Nat.pow_le_pow_right (by decide) (by decide)
    omega
  have l237 : l2 ≠ 37 := fun q => by
    dsimp only at f9
    rw [q, (N8 _ (.tail _ (.head _))).1] at f9
    cases f9
  have l244 : l2 ≠ 44 := fun q => by
    dsimp only at f9
    rw [q, (N8 _ (.tail _ (.tail _ (.tail _ (.head _))))).1] at f9
    cases f9
  have F9 := fr_ext F8 x9 (fun q => absurd (List.mem_singleton.mp q) (Nat.ne_of_gt lt37)) (fun b hb => by rw [List.mem_singleton.mp hb]; exact wt _ (.head _))
  obtain ⟨o₃, a₃, p₃, M3, ha3, kT3⟩ := TabIn.part2 (x := tI9) F9 (wt _ (.head _)) (Nat.ne_of_lt lt37)
  have M8 : News g L' h9 [(l, listOf vs.toArray e), (44, o₂), (a₂, p₂)] := news_ext (fun q hq => N8 q (by
    rcases List.mem_cons.mp hq with rfl | hq
    · exact .head _
    · exact .tail _ (.tail _ (.tail _ hq)))) x9 (fun q hq => by
      rw [List.mem_singleton]
      rcases List.mem_cons.mp hq with rfl | hq
      · exact l37
      · rcases List.mem_cons.mp hq with rfl | hq
        · show (44 : Nat) ≠ 37; decide
        · rw [List.mem_singleton.mp hq]; exact fun q : a₂ = 37 => by rw [q] at ha2; revert ha2; decide)
  have N9 := news_add (News.join M8 M3) F8 hl9 f9
  clear F8 N8 M8 M3
  try dsimp only [List.cons_append, List.nil_append] at F9 N9 ⊢
  iterate 1 (first | (k_unfold; (try dsimp only)) | (k_end; wrow_close) | walk1 | (dsimp only; walk1))
  rename Fr _ _ _ _ => F10
  rename News _ _ _ _ => N10
  have dx : ∀ d ∈ digN 1 (tn + 2 ^ cn) (cn + 1), 0 ≤ d ∧ d < 256 := fun d hd => by
    obtain ⟨d0, d1⟩ := digN_dig d hd
    have d2 : d.toNat < 2 := d1
    omega
  refine mk_bytes F10 N10 ⟨_, (N10 _ (.head _)).1, rfl, _, rfl⟩ hi9 dx (by rw [digN_len]; omega) rfl fun h11 t11 k11 F11 N11 => ?_
  clear F10 N10
  try dsimp only at F11 N11 ⊢
  iterate 6 (first | (k_unfold; (try dsimp only)) | (k_end; wrow_close) | walk1 | (dsimp only; walk1))
  have e12 : ((cn : Int) + 1) = ((digN 1 (tn + 2 ^ cn) (cn + 1)).length : Int) := by rw [digN_len]; omega
  rw [e12]
  rename Fr _ _ _ _ => F12
  rename News _ _ _ _ => N12
  refine ⟨X.keeps fun b o e => F12.keep b o e, swap_spec D (fun b o e => F12.keep b o (Gg b o e)) (r0.deeper _ |>.less (by decide)) dx (by rw [digN_len]; omega) (by rw [digN_len]; omega) fun ti13 h13 tk13 x13 => ?_⟩
  have F13 := fr_ext0 F12 x13
  have N13 := news_ext0 N12 x13
  clear F12 N12
  try dsimp only at F13 N13 ⊢
  refine wpC_any ?_
  walk1
  dsimp only
  refine wpC_any ?_
  change wpAny _ _ _ _ _ _
  k_fold
  iterate 18 (first | (k_unfold; (try dsimp only)) | (k_end; wrow_close) | walk1 | (dsimp only; walk1))
  obtain ⟨ds, hds⟩ : ∃ z, z = digN 1 (tn + 2 ^ cn) (cn + 1) := ⟨_, rfl⟩
  rw [← hds] at dx
  have dl : ds.length = cn + 1 := by rw [hds, digN_len]
  rename Fr _ _ _ _ => F14
  rename News _ _ _ _ => N14
  rw [← hds] at F14
  rw [← hds]
  refine by_slice (s := ⟨_, _, _, _, _⟩) F14 N14 (by rw [List.length_reverse]; omega) (fun x hx => dx x (List.mem_reverse.mp hx)) fun h15 t15 k15 F15 N15 => ?_
  clear F14 N14
  try dsimp only at F15 N15 ⊢
  iterate 1 (first | (k_unfold; (try dsimp only)) | (k_end; wrow_close) | walk1 | (dsimp only; walk1))
  rename Fr _ _ _ _ => F16
  rename News _ _ _ _ => N16
  have dt : ∀ x ∈ ds.reverse.take cn, 0 ≤ x ∧ x < 256 := fun x hx => dx x (List.mem_reverse.mp (List.mem_of_mem_take hx))
  have dtl : (ds.reverse.take cn).length = cn := by rw [List.length_take, List.length_reverse]; omega
  refine list_bytes rfl F16 N16 dt (by omega) fun l3 vs3 e3 h17 tk17 F17 N17 lt17 hi17 => ?_
  clear F16 N16
  try dsimp only at F17 N17 ⊢
  iterate 4 (first | (k_unfold; (try dsimp only)) | (k_end; wrow_close) | walk1 | (dsimp only; walk1))
  rename Fr _ _ _ _ => F18
  rename News _ _ _ _ => N18
  have dsm : ∀ (zs : List Int), (∀ x ∈ zs, 0 ≤ x ∧ x < 256) → ∀ x ∈ zs, x.natAbs < 2 ^ 2000 := fun zs hz x hx => by
    have := hz x hx
    have p8 : 2 ^ 8 ≤ 2 ^ 2000 := Nat.pow_le_pow_right (by decide) (by decide)
    omega
  have Tb18 := kT2 _ (fun b o e => F18.keep b o e) (N18 _ (.tail _ (.tail _ (.tail _ (.head _))))).1 (N18 _ (.tail _ (.tail _ (.tail _ (.tail _ (.head _)))))).1
  refine d2i_spec (n := 1) D (fun b o e => F18.keep b o (Gg b o e)) h44 (r0.deeper _ |>.less (by decide)) Tb18 (N18 _ (.head _)).1 hi17 (dsm _ dt) (by omega) (by omega) fun t19 h19 tk19 x19 tI19 _ => ?_
  have F19 := fr_ext F18 x19 (fun q => absurd (List.mem_singleton.mp q) (Nat.ne_of_gt lt44)) (fun b hb => by rw [List.mem_singleton.mp hb]; exact wt _ (.tail _ (.head _)))
  obtain ⟨o₄, a₄, p₄, M4, ha4, kT4⟩ := TabIn.part2 (x := tI19) F19 (wt _ (.tail _ (.head _))) (Nat.ne_of_lt lt44)
  have M9 : News g L' h19 [(l, listOf vs.toArray e), (37, o₃), (a₃, p₃)] := news_ext (fun q hq => N18 q (by
    rcases List.mem_cons.mp hq with rfl | hq
    · exact .tail _ (.tail _ (.head _))
    · exact .tail _ (.tail _ (.tail _ (.tail _ (.tail _ hq)))))) x19 (fun q hq => by
      rw [List.mem_singleton]
      rcases List.mem_cons.mp hq with rfl | hq
      · exact l44
      · rcases List.mem_cons.mp hq with rfl | hq
        · show (37 : Nat) ≠ 44; decide
        · rw [List.mem_singleton.mp hq]; exact fun q : a₃ = 44 => by rw [q] at ha3; revert ha3; decide)
  have N19 := News.join M9 M4
  clear F18 N18 M9 M4
  try dsimp only [List.cons_append, List.nil_append] at F19 N19 ⊢
  iterate 27 (first | (k_unfold; (try dsimp only)) | (k_end; wrow_close) | walk1 | (dsimp only; walk1))
  rename Fr _ _ _ _ => F20
  rename News _ _ _ _ => N20
  have nr : ∀ x ∈ ns.reverse, 0 ≤ x ∧ x < 256 := fun x hx => nb x (List.mem_reverse.mp hx)
  refine by_slice (s := ⟨_, _, _, _, _⟩) F20 N20 (by rw [List.length_reverse]; omega) nr fun h21 t21 k21 F21 N21 => ?_
  clear F20 N20
  try dsimp only at F21 N21 ⊢
  iterate 1 (first | (k_unfold; (try dsimp only)) | (k_end; wrow_close) | walk1 | (dsimp only; walk1))
  rename Fr _ _ _ _ => F22
  rename News _ _ _ _ => N22
  have nt : ∀ x ∈ ns.reverse.take cn, 0 ≤ x ∧ x < 256 := fun x hx => nr x (List.mem_of_mem_take hx)
  have ntl : (ns.reverse.take cn).length ≤ cn := by rw [List.length_take]; omega
  refine list_bytes rfl F22 N22 nt (by omega) fun l5 vs5 e5 h23 tk23 F23 N23 lt23 hi23 => ?_
  clear F22 N22
  try dsimp only at F23 N23 ⊢
  iterate 4 (first | (k_unfold; (try dsimp only)) | (k_end; wrow_close) | walk1 | (dsimp only; walk1))
  rename Fr _ _ _ _ => F24
  rename News _ _ _ _ => N24
  have Tb24 := kT4 _ (fun b o e => F24.keep b o e) (N24 _ (.tail _ (.tail _ (.tail _ (.tail _ (.head _)))))).1 (N24 _ (.tail _ (.tail _ (.tail _ (.tail _ (.tail _ (.head _))))))).1
  refine d2iF_spec (n := 1) D (fun b o e => F24.keep b o (Gg b o e)) h44 (r0.deeper _ |>.less (by decide)) Tb24 (N24 _ (.head _)).1 hi23 (dsm _ nt) (by omega) (by omega) fun t25 h25 tk25 x25 => ?_
  have F25 := fr_ext0 F24 x25
  have N25 := news_ext0 N24 x25
  clear F24 N24
  try dsimp only at F25 N25 ⊢
  iterate 4 (first | (k_unfold; (try dsimp only)) | (k_end; wrow_close) | walk1 | (dsimp only; walk1))
  rename Fr _ _ _ _ => F26
  rename News _ _ _ _ => N26
  refine run_spec D (fun b o e => F26.keep b o (Gg b o e)) (r0.deeper _ |>.less (by decide)) (by omega) fun n2 T2 l6 vs6 e6 tb6 h27 tk27 hn27 x27 fT27 fl27 _ hT27 _ _ _ => ?_
  rw [← hP2] at hn27
  obtain rfl : n2 = n := by omega
  have rowE := pf.hA
  rw [← hds, ← hns] at rowE
  rw [rowE] at hT27
  have N27 := news_add (news_ext0 N26 x27) F26 hT27 fT27
  have F27 := fr_ext0 F26 x27
  clear F26 N26
  try dsimp only at F27 N27 ⊢
  iterate 3 (first | (k_unfold; (try dsimp only)) | (k_end; wrow_close) | walk1 | (dsimp only; walk1))
  refine ne_bytes ?_
  rw [show ((byteArr ns.reverse).toList != (byteArr ns.reverse).toList) = false by simp]
  iterate 20 (first | (k_unfold; (try dsimp only)) | (k_end; wrow_close) | walk1 | (dsimp only; walk1))
  rename Fr _ _ _ _ => F28
  rename News _ _ _ _ => N28
  refine list_bytes rfl F28 N28 nb (by omega) fun l7 vs7 e7 h29 tk29 F29 N29 lt29 hi29 => ?_
  clear F28 N28
  try dsimp only at F29 N29 ⊢
  iterate 4 (first | (k_unfold; (try dsimp only)) | (k_end; wrow_close) | walk1 | (dsimp only; walk1))
  rename Fr _ _ _ _ => F30
  rename News _ _ _ _ => N30
  have g44 : ∀ {h : Heap} {m nx}, Fr g L' h m → News g L' h nx → (44, o₄) ∈ nx → (a₄, p₄) ∈ nx → TabIn 44 54 4 qD h := fun F N i j => kT4 _ (fun b o e => F.keep b o e) (N _ i).1 (N _ j).1
  have g37 : ∀ {h : Heap} {m nx}, Fr g L' h m → News g L' h nx → (37, o₃) ∈ nx → (a₃, p₃) ∈ nx → TabIn 37 39 4 qI h := fun F N i j => kT3 _ (fun b o e => F.keep b o e) (N _ i).1 (N _ j).1
  refine d2iF_spec (n := wn) D (fun b o e => F30.keep b o (Gg b o e)) h44 (r0.deeper _ |>.less (by decide)) (g44 F30 N30 (by simp) (by simp)) (N30 _ (.head _)).1 hi29 (dsm _ nb) (by omega) (by omega) fun t31 h31 tk31 x31 => ?_
  have F31 := fr_ext0 F30 x31
  have N31 := news_ext0 N30 x31
  clear F30 N30
  try dsimp only at F31 N31 ⊢
  iterate 11 (first | (k_unfold; (try dsimp only)) | (k_end; wrow_close) | walk1 | (dsimp only; walk1))
  rename Fr _ _ _ _ => F32
  rename News _ _ _ _ => N32
  refine list_bytes rfl F32 N32 nr (by rw [List.length_reverse]; omega) fun l8 vs8 e8 h33 tk33 F33 N33 lt33 hi33 => ?_
  clear F32 N32
  try dsimp only at F33 N33 ⊢
  iterate 4 (first | (k_unfold; (try dsimp only)) | (k_end; wrow_close) | walk1 | (dsimp only; walk1))
  rename Fr _ _ _ _ => F34
  rename News _ _ _ _ => N34
  refine d2iF_spec (n := wn) D (fun b o e => F34.keep b o (Gg b o e)) h44 (r0.deeper _ |>.less (by decide)) (g44 F34 N34 (by simp) (by simp)) (N34 _ (.head _)).1 hi33 (dsm _ nr) (by rw [List.length_reverse]; omega) (by omega) fun t35 h35 tk35 x35 => ?_
  have F35 := fr_ext0 F34 x35
  have N35 := news_ext0 N34 x35
  clear F34 N34
  try dsimp only at F35 N35 ⊢
  obtain ⟨mok, av, hav, alt⟩ := prod_nat (w := wn) (l := ns) w34.2 (by omega) nb
  have B := big (w := wn) (n := n2) (a := av) w34.1 w34.2 (by omega) (by omega) alt
  iterate 2 (first | (k_unfold; (try dsimp only)) | (k_end; wrow_close) | walk1 | (dsimp only; walk1))
  rename Fr _ _ _ _ => F36
  rename News _ _ _ _ => N36
  refine mul_spec D (fun b o e => F36.keep b o (Gg b o e)) (r0.deeper _ |>.less (by decide)) mok fun t37 h37' tk37 x37 => ?_
  rw [hav]
  have F37 := fr_ext0 F36 x37
  have N37 := news_ext0 N36 x37
  clear F36 N36
  try dsimp only at F37 N37 ⊢
  iterate 26 (first | (k_unfold; (try dsimp only)) | (k_end; wrow_close) | walk1 | (dsimp only; walk1))
  refine len_bytes (by rw [byteArr_size]; omega) ?_
  rw [byteArr_size, nl]
  skip
  refine mul_int ?_ (.of_left (intBits_le_64 (by omega) (by omega)))
  rw [← Int.natCast_mul]
  have wnb := B.wn1
  skip
  refine pow_int_small (Int.natCast_nonneg _) (by omega) (by decide) ?_
  rw [Int.toNat_natCast, show (2 : Int) ^ (wn * n2) = ((2 ^ (wn * n2) : Nat) : Int) by rw [Int.natCast_pow]; rfl]
  iterate 4 (first | (k_unfold; (try dsimp only)) | (k_end; wrow_close) | walk1 | (dsimp only; walk1))
  have b1 := B.b0
  rw [show ((2 ^ (wn * n2) : Nat) : Int) - 1 = ((2 ^ (wn * n2) - 1 : Nat) : Int) by omega]
  rename Fr _ _ _ _ => F38
  rename News _ _ _ _ => N38
  refine dm_spec D (fun b o e => F38.keep b o (Gg b o e)) h37 h44 (r0.deeper _ |>.less (by decide)) (g37 F38 N38 (by simp) (by simp)) (g44 F38 N38 (by simp) (by simp)) B.a2000 b1 rfl (by have := B.nb1; omega) rfl B.k40 fun T3 q3 t3 t3' h39 tk39 x39 f39 hT39 => ?_
  obtain ⟨mv, hmv⟩ : ∃ mv, mv = (qrF (2 ^ (wn * n2) - 1) (Builtin.Int.intBits ((2 ^ (wn * n2) - 1 : Nat) : Int)) (digN (Builtin.Int.intBits ((2 ^ (wn * n2) - 1 : Nat) : Int)) av ((Builtin.Int.intBits (av : Int) + Builtin.Int.intBits ((2 ^ (wn * n2) - 1 : Nat) : Int) - 1) / Builtin.Int.intBits ((2 ^ (wn * n2) - 1 : Nat) : Int))).reverse).2 := ⟨_, rfl⟩
  rw [← hmv] at hT39
  have mlt := qr_lt (k := (Builtin.Int.intBits (av : Int) + Builtin.Int.intBits ((2 ^ (wn * n2) - 1 : Nat) : Int) - 1) / Builtin.Int.intBits ((2 ^ (wn * n2) - 1 : Nat) : Int)) B rfl
  rw [← hmv] at mlt
  have figE := pf.hB _ av mv rfl (by rw [← hns]; exact hav.symm) hmv
  rw [← hns] at figE
  have N39 := news_add (news_ext0 N38 x39) F38 hT39 f39
  have F39 := fr_ext0 F38 x39
  clear F38 N38
  try dsimp only at F39 N39 ⊢
  iterate 6 (first | (k_unfold; (try dsimp only)) | (k_end; wrow_close) | walk1 | (dsimp only; walk1))
  rename Fr _ _ _ _ => F40
  rename News _ _ _ _ => N40
  have kl : (Builtin.Int.intBits (mv : Int) + wn - 1) / wn = n2 := by
    have := congrArg List.length figE
    rw [digN_len, cmnF_len] at this
    exact this
  refine i2dF_spec D (fun b o e => F40.keep b o (Gg b o e)) h37 (r0.deeper _ |>.less (by decide)) (g37 F40 N40 (by simp) (by simp)) (Nat.lt_trans mlt (Nat.lt_of_lt_of_le (Nat.sub_lt (Nat.two_pow_pos _) (by decide)) (Nat.pow_le_pow_right (by decide) (by omega)))) (by omega) (by omega) rfl (by rw [kl]; omega) fun l9 vs9 e9 h41 tk41 x41 f41 hl41 hi41 => ?_
  rw [figE] at hi41
  have N41 := news_add (news_ext0 N40 x41) F40 hl41 f41
  have F41 := fr_ext0 F40 x41
  clear F40 N40
  try dsimp only at F41 N41 ⊢
  iterate 13 (first | (k_unfold; (try dsimp only)) | (k_end; wrow_close) | walk1 | (dsimp only; walk1))
  rename Fr _ _ _ _ => F42
  rename News _ _ _ _ => N42
  refine lc_spec D (fun b o e => F42.keep b o (Gg b o e)) (r0.deeper _ |>.less (by decide)) nb (by omega) (by omega) fun lA vsA eA h43 tk43 x43 f43 hl43 hi43 => ?_
  rw [nl] at hi43
  have N43 := news_add (news_ext0 N42 x43) F42 hl43 f43
  have F43 := fr_ext0 F42 x43
  clear F42 N42
  try dsimp only at F43 N43 ⊢
  skip
  rename Fr _ _ _ _ => F44
  rename News _ _ _ _ => N44
  refine ne_intsK ⟨_, (N44 _ (.tail _ (.head _))).1, rfl, _, rfl⟩ hi41 ⟨_, (N44 _ (.head _)).1, rfl, _, rfl⟩ hi43 (by show un + 3 + 64 < cLine; omega) ?_
  rw [show (!decide (cmnF ns n2 = cmnF ns n2)) = false by simp]
  iterate 11 (first | (k_unfold; (try dsimp only)) | (k_end; wrow_close) | walk1 | (dsimp only; walk1))
  refine pow_int_small (by omega) (by omega) (by decide) ?_
  have cq : ((cn : Int) - 2).toNat = cn - 2 := by omega
  rw [cq]
  iterate 19 (first | (k_unfold; (try dsimp only)) | (k_end; wrow_close) | walk1 | (dsimp only; walk1))
  refine len_bytes (by rw [byteArr_size]; omega) ?_
  rw [byteArr_size, nl]
  iterate 12 (first | (k_unfold; (try dsimp only)) | (k_end; wrow_close) | walk1 | (dsimp only; walk1))
  rename Fr _ _ _ _ => F46
  rename News _ _ _ _ => N46
  rename IntsAre _ _ => hi46
  have eL : (List.replicate ((n2 : Int) - 1).toNat [(2 : Int) ^ (cn - 2)]).flatten ++ [2 * (2 : Int) ^ (cn - 2)] = List.replicate (n2 - 1) ((2 : Int) ^ (cn - 2)) ++ [2 * (2 : Int) ^ (cn - 2)] := by
    rw [List.flatten_replicate_singleton]
    congr 2
    omega
  rw [eL] at hi46
  refine eq_intsK ⟨_, (N46 (l9, listOf vs9.toArray e9) (by simp)).1, rfl, _, rfl⟩ hi41 ⟨_, (N46 _ (.head _)).1, rfl, _, rfl⟩ hi46 (by show un + 3 + 64 < cLine; omega) ?_
  obtain ⟨ev, hev⟩ : ∃ ev, ev = decide (cmnF ns n2 = List.replicate (n2 - 1) ((2 : Int) ^ (cn - 2)) ++ [2 * (2 : Int) ^ (cn - 2)]) := ⟨_, rfl⟩
  rw [← hev]
  iterate 16 (first | (k_unfold; (try dsimp only)) | (k_end; wrow_close) | walk1 | (dsimp only; walk1))
  rename Fr _ _ _ _ => F48
  rename News _ _ _ _ => N48
  refine co_spec D (fun b o e => F48.keep b o (Gg b o e)) (r0.deeper _ |>.less (by decide)) ⟨_, (N48 (l, listOf vs.toArray e) (by simp)).1, rfl, _, rfl⟩ hi (Nat.ne_of_gt hu0) ?_ ?_ fun t49 h49 tk49 x49 => ?_
  · have q2 : ∀ z : Nat, z ≤ 15 → smallInt (z : Int) = true := by decide
    exact q2 sn sn15
  · intro x hx
    obtain ⟨v, tv, rfl, hv⟩ := htok x hx
    dsimp only at hv
    refine ⟨v, tv, rfl, ?_, fun q => ?_⟩
    · rcases hv with ⟨_, q⟩ | q
      · rw [q]; exact Nat.ne_of_gt hu0
      · exact Nat.ne_of_gt (Nat.lt_of_lt_of_le hu0 (Nat.le_trans (Nat.le_of_succ_le hT5) q))
    · rcases hv with ⟨q2, _⟩ | q2
      · exact q2
      · exact absurd (Nat.le_trans hT5 (q ▸ q2)) (Nat.not_succ_le_self _)
  have F49 := fr_ext0 F48 x49
  have N49 := news_ext0 N48 x49
  clear F48 N48
  try dsimp only at F49 N49 ⊢
  iterate 4 (first | (k_unfold; (try dsimp only)) | (k_end; wrow_close) | walk1 | (dsimp only; walk1))
  have hC := pf.hC
  rw [← hns, ← hev] at hC
  have hres : (ev == (cnt (sn : Int) (statesF tn cn sn n2) == 1)) = true := by
    rw [hC]
    by_cases q : cnt (sn : Int) (statesF tn cn sn n2) = 1
    · rw [q]; rfl
    · rw [decide_eq_false q, beq_false_of_ne q]; rfl
  rw [hres]
  exact ret h49 _ (fun b o nb' e' => F49.keep b o (xt.1 b o nb' e')) (g37 F49 N49 (by simp) (by simp)).tab (g44 F49 N49 (by simp) (by simp)).tab

end
end Mine

-- part ForC
namespace Mine
section
variable {prog : Program} {w : World} {A : Around} {s : Shared} {env : Env}
theorem codeC_forLoop {R : Flow → Shared → Prop} {target : Expr} {it : Value} {body : List Stmt} (I : Nat → Shared → Prop)
    (turn : ∀ n s, I n s → wpAny (model prog w) A (pyNext it) (fun r s₁ => match r with
      | none => R .next s₁
      | some v => wpAny (model prog w) A (assign target env v) (fun _ s₂ => wpC (model prog w) A (execs body env) (fun f s₃ => match f with
          | .next | .cont => ∃ m, m < n ∧ I m s₃
          | .brk => R .next s₃
          | .ret v => R (.ret v) s₃) s₂) (fun _ _ => False) s₁) (fun _ _ => False) s)
    (n : Nat) (h : I n s) (ht : ∀ v, letOwnedTupleGo target it v = pure () := by intro _; rfl) : codeC (model prog w) A (.forLoop target it body [] env) R s := by
  induction n using Nat.strongRecOn generalizing s with
  | ind n ih =>
    refine codeC_of_tree .forLoop ?_
    show wpC _ A ((forTurn target it body [] env).onRaise (fun x => do noteFrame x env; theTreesLotGoes x)) _ s
    refine wpC_onRaise ?_
    simp only [forTurn]
    refine wpC_bind (wpC_standAt (wpC_bind (wpC_onRaise (wpC_mono (wpC_any (turn n s h)) fun r s₁ h₁ => ?_))))
    cases r with
    | none =>
      refine wpC_pure ⟨rfl, ?_⟩
      refine codeC_any (codeAny_block (wpAny_execs_nil ?_))
      exact h₁
    | some v =>
      refine wpC_bind (wpC_any (wpAny_of_eq (ht v) ?_))
      refine wpC_bind (wpC_mono (wpC_any h₁) fun _ s₂ h₂ => wpC_bind (wpC_mono h₂ fun f s₃ h₃ => ?_))
      cases f with
      | next => obtain ⟨m, hm, hI⟩ := h₃; exact wpC_pure ⟨rfl, ih m hm hI⟩
      | cont => obtain ⟨m, hm, hI⟩ := h₃; exact wpC_pure ⟨rfl, ih m hm hI⟩
      | brk => exact wpC_pure h₃
      | ret v => exact wpC_pure h₃
theorem wpC_For {target iter : Expr} {body : List Stmt} {pos : Pos} {Q : Flow → Shared → Prop}
    (h : wpAny (model prog w) A (eval iter env) (fun x s₁ => wpAny (model prog w) A (pyIter x) (fun it s₂ =>
      codeC (model prog w) (A.mark none) (.forLoop target it body [] env) Q s₂) (fun _ _ => False) s₁) (fun _ _ => False) s)
    (hs : ∀ x, foldedSetIterable iter env x = pure x := by intro _; rfl) :
    wpC (model prog w) A (exec (.For target iter body [] pos) env) Q s := by
  rw [exec_For]
  refine wpC_bind (wpC_standAt (wpC_bind (wpC_mono (wpC_any h) fun x s₁ h₁ => wpC_bind (wpC_any (wpAny_of_eq (hs x) ?_)))))
  refine wpC_bind (wpC_standAt (wpC_bind (wpC_holding (wpC_mono (wpC_any h₁) fun it s₂ h₂ => ?_))))
  unfold runOwn
  exact wpC_onRaise (wpC_run h₂)
theorem mark_none {A : Around} (h : A.handled = none) : A.mark none = A := by
  obtain ⟨a, b, c, d, e⟩ := A
  cases h
  rfl
end
section
variable {prog : Program} {w : World} {A : Around} {s : Shared} {h₀ : Heap} {L : Addr} {m : Str → Option Value} {env : Env} {elt : Expr} {x : Str} {scope : Scope} {cl : List (Str × Addr)} {P : Nat → Value → Prop} {Fin : List Value → List (Addr × Obj) → Prop}
/-- a comprehension that gives ints and changes nothing, over a list -/
theorem comp_intsS {S : List (Addr × Obj) → Prop} {f : Nat → Int} {n : Nat} {news : List (Addr × Obj)} (hS : S news)
    (step : ∀ j ys v I oI C oC D m₂ h tk (E' : Value → Shared → Prop), j < n → P j v → LCg.NsObj oC m₂ → m₂ x = some v → Fr h₀ L h m → News h₀ L h ((I, oI) :: (C, oC) :: (D, LCg.lst ys) :: news) →
      wpAny (model prog w) A (eval elt (compEnvC scope cl C env)) (fun y s' => ∃ t h' tk', y = .int (f j) t ∧ s' = { s with heap := h', toks := tk' } ∧ Fr h₀ L h' m ∧ News h₀ L h' ((I, oI) :: (C, oC) :: (D, LCg.lst ys) :: news)) E' { s with heap := h, toks := tk })
    (fin : ∀ ys, IntsAre ys ((List.range n).map f) → Fin ys news) : LCg.CompRest prog w A h₀ L m env elt x scope cl s S P Fin n 0 [] news := by
  have go : ∀ (k j : Nat) (ys : List Value), j + k = n → IntsAre ys ((List.range j).map f) → LCg.CompRest prog w A h₀ L m env elt x scope cl s S P Fin k j ys news := by
    intro k
    induction k with
    | zero =>
      intro j ys hj hi
      obtain rfl : j = n := by omega
      exact .zero (fin ys hi)
    | succ k ih =>
      intro j ys hj hi
      refine .succ fun v I oI C oC D m₂ h tk E' hP hC hx F N off hne => ?_
      refine wpAny_mono (step j ys v I oI C oC D m₂ h tk E' (by omega) hP hC hx F N) (fun y s' hy => ?_) fun _ _ e => e
      obtain ⟨t, h', tk', rfl, rfl, F', N'⟩ := hy
      refine ⟨h', tk', news, rfl, F', N', off, hS, ih (j + 1) _ (by omega) ?_⟩
      rw [List.range_succ, List.map_append]
      exact hi.append (.cons _ _ .nil)
  exact go n 0 [] (by omega) .nil
end
section
variable {P a L : Addr} {line col : Int} {qual : Str} {g h h' : Heap} {m : Str → Option Value}
theorem Tab.but (x : Tab P line col qual h) (hP : P ≠ a) (na : ∀ c', h.CodeRec (.ref c') qual → c' ≠ a) (e : ∀ b o, b ≠ a → h.get? b = some o → h'.get? b = some o) : Tab P line col qual h' := by
  rcases x with x | ⟨c', x, hc, r⟩
  · exact .inl (e _ _ hP x)
  · have n := na _ r
    obtain ⟨c, o, vs, t, e1, e2, r⟩ := r
    cases e1
    exact .inr ⟨c', e _ _ hP x, hc, c', o, vs, t, rfl, e _ _ n e2, r⟩
theorem rec_iter {D : Addr} {i : Nat} (hI : h.IsListIter a D i) : ∀ c', h.CodeRec (.ref c') qual → c' ≠ a := by
  rintro c' ⟨c, o, vs, t, e1, e2, r1, r2⟩ rfl
  cases e1
  obtain ⟨o', e, _, d⟩ := hI
  rw [e2] at e
  cases e
  rw [d] at r1
  cases r1
  cases r2
theorem rec_frame (F : Fr g L h m) : ∀ c', h.CodeRec (.ref c') qual → c' ≠ L := by
  rintro c' ⟨c, o, vs, t, e1, e2, r1, r2⟩ rfl
  cases e1
  obtain ⟨oL, mL, _, eL, dL, _⟩ := F.ns
  rw [e2] at eL
  cases eL
  rw [r1] at dL
  cases dL
end
section
variable {α : Type} {M : Model} {A : Around} {s : Shared}
theorem with_toksF {t : Sem α} {Q : α → Shared → Prop} {n : Nat} (hn : n ≤ s.toks) (h : wpAny M A t (fun a s' => n ≤ s'.toks → Q a s') (fun _ _ => False) s) : wpAny M A t Q (fun _ _ => False) s :=
  wpAny_with_toks hn (wpAny_mono h (fun _ _ x => x) fun _ _ e _ => e)
end
end Mine

-- part Law
namespace Mine
section
variable {prog : Program} {w : World} {A : Around} {E : Value → Shared → Prop} {s : Shared} {p : Program} {loose : List Str} {mean : ExcName → Option Value} {mg mb : Str → Option Value} {G : Heap}
theorem law_spec {l : Addr} {vs : List Value} {ns : List Int} {Q : Value → Shared → Prop} (D : Gd w p loose mean mg mb G) (hG : ∀ b o, G.get? b = some o → s.heap.get? b = some o) (h37 : G.get? 37 = none) (h44 : G.get? 44 = none) (r : Rm 61 A)
    (hT1 : Tab 37 39 4 qI s.heap) (hT2 : Tab 44 54 4 qD s.heap) (hPL : PL) (hl : s.heap.IsList l vs.toArray) (hi : IntsAre vs ns) (hns : ns.length ≤ 63)
    (ret : ∀ h' tk, Ext [37, 44] s.heap h' → Tab 37 39 4 qI h' → Tab 44 54 4 qD h' → Q (.bool true) { s with heap := h', toks := tk }) :
    wpC (model prog w) A (call (.ref 136) [.ref l]) Q s := by
  obtain ⟨hd, dp, fr, gd, un⟩ := A
  obtain rfl : hd = none := r.hh
  have rd := r.dp
  have ru := r.un
  dsimp only at rd ru
  refine' callKD (binds := [(Str.ofString "script", .ref l)]) [37, 44] D hG (by simp [h37, h44]) r.room ?ko ?kc (BindsTo.of_eq ?kb) ?kloc ?_ ?kcell ?c2 ?c3 ?c4
  case ko => k_is
  case kc => k_is
  case kb => rfl
  case kloc => exact locs rfl
  case kcell => decide
  case c2 => rfl
  case c3 => rfl
  case c4 => rfl
  intro g L' h₁ Dg lt xt wt F old X T
  simp only [List.reverse_cons, List.reverse_nil, List.nil_append, List.cons_append, List.length_cons, List.length_nil] at F ⊢
  have N : News g L' h₁ [] := News.nil
  try dsimp only

  have Gg : ∀ b o, G.get? b = some o → g.get? b = some o := fun b o e => xt.1 b o (fun q => by
    rcases List.mem_cons.mp q with rfl | q
    · rw [h37] at e; cases e
    · rw [List.mem_singleton.mp q, h44] at e; cases e) (hG b o e)
  have r0 := r
  have lt37 : 37 < L' := by
    obtain ⟨o, ho⟩ := hT1.get
    exact lt _ _ ho
  have lt44 : 44 < L' := by
    obtain ⟨o, ho⟩ := hT2.get
    exact lt _ _ ho
  obtain ⟨o₁, a₁, p₁, M1, ha1, kT1⟩ := Tab.part2 (x := Tab.ext (W := []) hT1 (fun b o _ e => old b o e) (by simp) (by simp)) F (wt _ (.head _)) (Nat.ne_of_lt lt37)
  obtain ⟨o₂, a₂, p₂, M2, ha2, kT2⟩ := Tab.part2 (x := Tab.ext (W := []) hT2 (fun b o _ e => old b o e) (by simp) (by simp)) F (wt _ (.tail _ (.head _))) (Nat.ne_of_lt lt44)
  replace N : News g L' h₁ [(37, o₁), (a₁, p₁), (44, o₂), (a₂, p₂)] := News.join M1 M2
  clear M1 M2
  have hlg : g.IsList l vs.toArray := by
    obtain ⟨o, ho, hc, n, hd⟩ := hl
    refine ⟨o, xt.1 _ _ (fun q => ?_) ho, hc, n, hd⟩
    rcases List.mem_cons.mp q with rfl | q
    · rcases hT1 with e | ⟨_, e, _⟩ <;> (rw [e] at ho; cases ho; cases hd)
    · rw [List.mem_singleton.mp q] at ho
      rcases hT2 with e | ⟨_, e, _⟩ <;> (rw [e] at ho; cases ho; cases hd)
  refine wpC_execs_cons (wpC_For ?_)
  change wpAny _ _ _ _ _ _
  k_fold
  iterate 8 (first | (k_unfold; (try dsimp only)) | (k_end; wrow_close) | walk1 | (dsimp only; walk1))
  rename Fr _ _ _ _ => F1
  rename News _ _ _ _ => N1
  refine LCg.ListComp_U (F₀ := F1) (by with_unfolding_all rfl) (by decide) (by rfl) (by decide) (by rfl) ?_
  change wpAny _ _ _ _ _ _
  k_fold
  iterate 8 (first | (k_unfold; (try dsimp only)) | (k_end; wrow_close) | walk1 | (dsimp only; walk1))
  rename Fr _ _ _ _ => F2
  rename News _ _ _ _ => N2
  rename IntsAre _ (List.take 2 ns) => hi2
  have hl2 := hi2.length
  have hl3 : (List.take 2 ns).length ≤ 2 := by rw [List.length_take]; omega
  refine LCg.CompSrc.ledger rfl F2 N2 (.head _) (by rw [List.size_toArray, sizeLine_eq]; omega) fun gh => ?_
  refine comp_intsS (f := fun j => ((ns.take 2).getD j 0).fmod 1000000) (.inr ⟨_, .head _, rfl, _, rfl⟩) (fun j ys v I oI C oC D m₂ hh tk E' hj hP hC hx F N => ?_) fun ys hi => ?_
  · obtain ⟨z, tz, rfl, hz⟩ := ints_get hi2 (by simpa using hP)
    have ez : (ns.take 2).getD j 0 = z := by rw [List.getD_eq_getElem?_getD, hz]; rfl
    rw [ez]
    clear F2 N2
    try dsimp only
    change wpAny _ _ _ _ _ _
    k_fold
    iterate 12 (first | (k_unfold; (try dsimp only)) | (k_end; wrow_close) | walk1 | (dsimp only; walk1))
    refine mod_int (by decide) ?_
    try dsimp only
    first
    | exact ⟨_, _, _, rfl, rfl, F, N⟩
    | (k_unfold; dsimp only; exact ⟨_, _, _, rfl, rfl, F, N⟩)
  · intro DD hd tkd Fd Nd offd
    clear F2 N2
    try dsimp only
    refine kmk_add_ints (vs := [.int 67 _, .int 14 _]) Fd Nd ⟨_, (Nd _ (.tail _ (.tail _ (.head _)))).1, rfl, _, rfl⟩ ⟨_, (Nd _ (.head _)).1, rfl, _, rfl⟩ (.cons _ _ (.cons _ _ .nil)) hi (fun li us h3 F3 N3 lt3 hi3 => ?_) ?_
    rotate_left
    · rw [sizeLine_eq, List.length_map, List.length_range, List.size_toArray]
      show 2 + _ ≤ _
      omega
    have D37 : 37 < li := lt3 _ (.tail _ (.tail _ (.tail _ (.head _))))
    have D44 : 44 < li := lt3 _ (.tail _ (.tail _ (.tail _ (.tail _ (.tail _ (.head _))))))
    have Tb1 := kT1 _ (fun b o e => F3.keep b o e) (N3 _ (.tail _ (.tail _ (.tail _ (.tail _ (.head _)))))).1 (N3 _ (.tail _ (.tail _ (.tail _ (.tail _ (.tail _ (.head _))))))).1
    have Tb2 := kT2 _ (fun b o e => F3.keep b o e) (N3 _ (.tail _ (.tail _ (.tail _ (.tail _ (.tail _ (.tail _ (.head _)))))))).1 (N3 _ (.tail _ (.tail _ (.tail _ (.tail _ (.tail _ (.tail _ (.tail _ (.head _))))))))).1
    have lst3 : h3.IsList li us.toArray := ⟨_, (N3 _ (.head _)).1, rfl, _, rfl⟩
    have hz3 : ∀ k : Nat, ∀ z ∈ [67, 14] ++ List.map (fun j => ((List.take 2 ns).getD j 0).fmod 1000000) (List.range k), (0 : Int) ≤ z ∧ z < 1000000 := fun k z hz => by
      rcases List.mem_append.mp hz with q | q
      · rcases List.mem_cons.mp q with rfl | q
        · decide
        · rw [List.mem_singleton.mp q]; decide
      · obtain ⟨j, _, rfl⟩ := List.mem_map.mp q
        rw [Int.fmod_eq_emod_of_nonneg _ (by decide)]
        omega
    clear Fd Nd
    try dsimp only
    skip
    refine wpAny_pyIter_list lst3 ?_
    have li3 : li < h3.objs.size := Heap.lt_size (N3 _ (.head _)).1
    have I37 : h3.objs.size ≠ 37 := Nat.ne_of_gt (Nat.lt_trans D37 li3)
    have I44 : h3.objs.size ≠ 44 := Nat.ne_of_gt (Nat.lt_trans D44 li3)
    have IL : h3.objs.size ≠ L' := Nat.ne_of_gt F3.ns.lt
    have lL : li ≠ L' := (N3 _ (.head _)).2.1
    obtain ⟨I, hI⟩ : ∃ I, I = h3.objs.size := ⟨_, rfl⟩
    have gI : g.get? I = none := by rw [hI]; exact next_is_new F3
    dsimp only
    rw [mark_none rfl, ← hI]
    refine codeC_forLoop (fun k s' => ∃ h' tk m' i, s' = { s with heap := h', toks := tk } ∧ (h'.IsListIter I li i ∧ h'.IsList li us.toArray) ∧ Fr g L' h' m' ∧ Tab 37 39 4 qI h' ∧ Tab 44 54 4 qD h' ∧ i ≤ us.length ∧ k = us.length + 1 - i) ?_ (us.length + 1) ?_
    · rintro k s' ⟨h', tk, m', i, rfl, hst, F', Y1, Y2, hi', rfl⟩
      have e5 : us.toArray.size = us.length := by simp
      have neI : li ≠ I := fun q => by rw [q, hI] at li3; exact absurd li3 (Nat.lt_irrefl _)
      have W : ∀ A' : Around, A'.handled = none → Walks prog w A' I [I, li] [I] us.length (fun i v => us.toArray[i]? = some v) (fun i h => h.IsListIter I li i ∧ h.IsList li us.toArray) := fun A' hA => by
        have W := Walks.list (prog := prog) (w := w) hA I li neI us.toArray
        rw [e5] at W
        exact W
      by_cases hlt : i < us.length
      · refine (W _ rfl).item i _ _ _ hlt hst fun v h₁ tk₁ hP hst₁ hk₁ => ?_
        obtain ⟨z, tz, rfl, hz⟩ := ints_get hi3 (by simpa using hP)
        obtain ⟨z0, z1⟩ := hz3 _ z (List.mem_of_getElem? hz)
        have hk : ∀ b o, b ≠ I → h'.get? b = some o → h₁.get? b = some o := fun b o q e => hk₁ b o (by simpa using q) e
        have F₁ : Fr g L' h₁ m' := ⟨F'.ns.at' fun o e => hk _ o (by rw [hI]; exact Ne.symm IL) e, fun b o e => hk b o (fun q => by rw [q, gI] at e; cases e) (F'.keep b o e), F'.above⟩
        have Z1 := Tab.but Y1 (by rw [hI]; exact Ne.symm I37) (rec_iter hst.1) hk
        have Z2 := Tab.but Y2 (by rw [hI]; exact Ne.symm I44) (rec_iter hst.1) hk
        refine wpAny_assign_Name (wpAny_storeName_local (by rfl) F₁.ns (fun h₂ hn₂ hs₂ => ?_) (by rfl))
        have F₂ := F₁.set hn₂ hs₂
        have kL : ∀ b o, b ≠ L' → h₁.get? b = some o → h₂.get? b = some o := fun b o q e => (hs₂.2 b q).trans e
        have V1 := Tab.but Z1 (Nat.ne_of_lt lt37) (rec_frame F₁) kL
        have V2 := Tab.but Z2 (Nat.ne_of_lt lt44) (rec_frame F₁) kL
        obtain ⟨oi, ei, ci⟩ := hst₁.1
        obtain ⟨oj, ej, cj⟩ := hst₁.2
        have iter2 : h₂.IsListIter I li (i + 1) := ⟨oi, kL _ _ (by rw [hI]; exact IL) ei, ci⟩
        have list2 : h₂.IsList li us.toArray := ⟨oj, kL _ _ lL ej, cj⟩
        have N₂ : News g L' h₂ [] := News.nil
        clear F3 N3 F₁ F'
        try dsimp only at F₂ ⊢
        refine wpC_execs_cons (wpC_If (wpC_isTrue_not (wpC_isTrue_value (wpC_Call_Name ?_))))
        walk1
        refine wpC_callE (P := (Mine.hd.heap_39 w.params).In) (keeps_K (by k_is)) ?_
        iterate 3 (first | (k_unfold; (try dsimp only)) | (k_end; wrow_close) | walk1 | (dsimp only; walk1))
        refine ⟨X.keeps fun b o e => F₂.keep b o e, lh_spec D (fun b o e => F₂.keep b o (Gg b o e)) h37 h44 (r0.deeper _) V1 V2 hPL z0 z1 fun h5 tk5 x5 y1 y2 => ?_⟩
        try dsimp only
        refine wpC_any ?_
        walk1
        rw [if_neg (show ¬ ((!true) = true) by decide)]
        refine wpC_any (wpAny_execs_nil ?_)
        refine wpC_any (wpAny_execs_nil ?_)
        have nW : ∀ {b : Addr}, b ≠ 37 → b ≠ 44 → b ∉ [37, 44] := fun q1 q2 q => by
          rcases List.mem_cons.mp q with q | q
          · exact q1 q
          · exact q2 (List.mem_singleton.mp q)
        have F5 := fr_ext F₂ x5 (nW (Nat.ne_of_gt lt37) (Nat.ne_of_gt lt44)) wt
        obtain ⟨oi, ei, ci⟩ := iter2
        obtain ⟨oj, ej, cj⟩ := list2
        exact ⟨us.length + 1 - (i + 1), by omega, h5, tk5, _, i + 1, rfl, ⟨⟨oi, x5 _ _ (nW (by rw [hI]; exact I37) (by rw [hI]; exact I44)) ei, ci⟩, ⟨oj, x5 _ _ (nW (Nat.ne_of_gt D37) (Nat.ne_of_gt D44)) ej, cj⟩⟩, F5, y1, y2, hlt, rfl⟩
      · obtain rfl : i = us.length := by omega
        refine (W _ rfl).done _ _ _ hst fun h₁ tk₁ hk₁ => ?_
        have hk : ∀ b o, b ≠ I → h'.get? b = some o → h₁.get? b = some o := fun b o q e => hk₁ b o (by simpa using q) e
        have F₁ : Fr g L' h₁ m' := ⟨F'.ns.at' fun o e => hk _ o (by rw [hI]; exact Ne.symm IL) e, fun b o e => hk b o (fun q => by rw [q, gI] at e; cases e) (F'.keep b o e), F'.above⟩
        have N₁ : News g L' h₁ [] := News.nil
        have Z1 := Tab.but Y1 (by rw [hI]; exact Ne.symm I37) (rec_iter hst.1) hk
        have Z2 := Tab.but Y2 (by rw [hI]; exact Ne.symm I44) (rec_iter hst.1) hk
        clear F3 N3 F'
        try dsimp only at F₁ ⊢
        refine wpC_any ?_
        iterate 3 (first | (k_unfold; (try dsimp only)) | (k_end; wrow_close) | walk1 | (dsimp only; walk1))
        exact ret _ _ (fun b o nb e => F₁.keep b o (xt.1 b o nb e)) Z1 Z2
    · refine ⟨_, _, _, 0, rfl, ⟨⟨_, by rw [hI]; exact Heap.get?_push_size _ rfl, rfl, rfl⟩, lst3.at fun o e => Heap.get?_push_of_some _ e⟩, F3.push _, Tab.ext (W := []) Tb1 (fun b o _ e => Heap.get?_push_of_some _ e) (by simp) (by simp), Tab.ext (W := []) Tb2 (fun b o _ e => Heap.get?_push_of_some _ e) (by simp) (by simp), Nat.zero_le _, rfl⟩

end
end Mine

-- part Pl
namespace Mine
def stepN (ta c st : Nat) : Nat :=
  let f0 := st &&& ta
  let f1 := f0 ^^^ (f0 >>> 2)
  let f2 := f1 ^^^ (f1 >>> 1)
  (st >>> 1) ||| ((f2 % 2) <<< (c - 1))
def orbN (ta c : Nat) : Nat → Nat → List Nat
  | 0, _ => []
  | n + 1, st => st :: orbN ta c n (stepN ta c st)
def dvN (w : Nat) : List Nat → Nat
  | [] => 0
  | d :: r => d + 2 ^ w * dvN w r
def dgN (w : Nat) : Nat → Nat → List Nat
  | _, 0 => []
  | x, k + 1 => x % 2 ^ w :: dgN w (x / 2 ^ w) k
def dotN : List Nat → List Nat → Nat
  | x :: r, y :: q => x * y + dotN r q
  | _, _ => 0
def rotN : List Nat → List Nat
  | [] => []
  | x :: r => r ++ [x]
def cmnN : Nat → List Nat → List Nat → List Nat
  | 0, _, _ => []
  | k + 1, row, rot => dotN row rot :: cmnN k row (rotN rot)
def toI (l : List Nat) : List Int := l.map fun x : Nat => (x : Int)
def addP : List Nat → List Nat → List Nat
  | [], b => b
  | x :: r, [] => x :: r
  | x :: r, y :: q => (x + y) :: addP r q
def mulP : List Nat → List Nat → List Nat
  | [], _ => []
  | x :: r, b => addP (b.map (x * ·)) (0 :: mulP r b)
/-- the two numbers' product, its upper half laid over the lower -/
def okW (n : Nat) (cm pr : List Nat) : Bool :=
  (addP (pr.take n) (pr.drop n) == cm) && (((pr.take n).length == n) && Nat.ble 1 (cm.getD (n - 1) 0))
def okR (c n ta st : Nat) (o row cm : List Nat) (ot s2 : Nat) : Bool :=
  (Builtin.Int.intBits ((ta + 2 ^ c : Nat) : Int) == c + 1) && (decide (ot < 2 ^ c) && (decide (s2 < 2 ^ c) && ((dv 1 ((digN 1 (ta + 2 ^ c) (c + 1)).reverse.take c) == (ot : Int)) && ((dv 1 ((toI row).reverse.take c) == (s2 : Int)) &&
  (((orbN ot c n s2).map (· % 2) == row.reverse) && (((decide (toI cm = List.replicate (n - 1) ((2 : Int) ^ (c - 2)) ++ [2 * (2 : Int) ^ (c - 2)])) == decide (cnt st (toI o) = 1)) && (cm.all (fun d => Nat.ble d 30) && ((cm.length == n) && okW n cm (mulP row row.reverse)))))))))
def okN (c n ta st : Nat) : Bool :=
  okR c n ta st (orbN ta c n st) ((orbN ta c n st).map (· % 2)) (cmnN n ((orbN ta c n st).map (· % 2)) (rotN ((orbN ta c n st).map (· % 2)))) (dvN 1 ((dgN 1 (ta + 2 ^ c) (c + 1)).reverse.take c)) (dvN 1 (((orbN ta c n st).map (· % 2)).reverse.take c))
theorem step4 : ∀ ta < 16, ∀ st < 16, stepF ((ta : Nat) : Int) ((4 : Nat) : Int) ((st : Nat) : Int) = ((stepN ta 4 st : Nat) : Int) ∧ stepN ta 4 st < 16 := by decide +kernel
theorem step3 : ∀ ta < 8, ∀ st < 8, stepF ((ta : Nat) : Int) ((3 : Nat) : Int) ((st : Nat) : Int) = ((stepN ta 3 st : Nat) : Int) ∧ stepN ta 3 st < 8 := by decide +kernel
theorem ok3 : ((List.range 4).all fun i => (List.range 7).all fun j => okN 3 7 (2 * i + 1) (j + 1)) = true := by decide +kernel
theorem ok4_0 : ((List.range 15).all fun j => okN 4 15 1 (j + 1)) = true := by decide +kernel
theorem ok4_1 : ((List.range 15).all fun j => okN 4 15 3 (j + 1)) = true := by decide +kernel
theorem ok4_2 : ((List.range 15).all fun j => okN 4 15 5 (j + 1)) = true := by decide +kernel
theorem ok4_3 : ((List.range 15).all fun j => okN 4 15 7 (j + 1)) = true := by decide +kernel
theorem ok4_4 : ((List.range 15).all fun j => okN 4 15 9 (j + 1)) = true := by decide +kernel
theorem ok4_5 : ((List.range 15).all fun j => okN 4 15 11 (j + 1)) = true := by decide +kernel
theorem ok4_6 : ((List.range 15).all fun j => okN 4 15 13 (j + 1)) = true := by decide +kernel
theorem ok4_7 : ((List.range 15).all fun j => okN 4 15 15 (j + 1)) = true := by decide +kernel

theorem dv_toI (w : Nat) : ∀ l : List Nat, dv w (toI l) = (dvN w l : Nat)
  | [] => rfl
  | d :: r => by
    show (d : Int) + 2 ^ w * dv w (toI r) = _
    rw [dv_toI w r, dvN, Int.natCast_add, Int.natCast_mul, Int.natCast_pow]
    rfl
theorem dg_toI (w : Nat) : ∀ (k x : Nat), digN w x k = toI (dgN w x k)
  | 0, x => rfl
  | k + 1, x => by
    rw [digN, dg_toI w k]
    rfl
theorem toI_rev (l : List Nat) : toI l.reverse = (toI l).reverse := List.map_reverse ..
theorem toI_take (l : List Nat) (k : Nat) : toI (l.take k) = (toI l).take k := List.map_take ..
/-- the long division's rest -/
theorem qr_mod {b nb : Nat} : ∀ (k a : Nat), a < 2 ^ (nb * k) → (qrF b nb (digN nb a k).reverse).2 = a % b := by
  intro k
  induction k with
  | zero =>
    intro a h
    have : a = 0 := by simpa using h
    subst this
    rw [Nat.zero_mod]; rfl
  | succ k ih =>
    intro a h
    have h2 : a / 2 ^ nb < 2 ^ (nb * k) := by
      rw [Nat.mul_succ, Nat.add_comm, Nat.pow_add] at h
      exact Nat.div_lt_of_lt_mul h
    rw [digN, List.reverse_cons, qrF_snoc]
    show ((qrF b nb (digN nb (a / 2 ^ nb) k).reverse).2 * 2 ^ nb + (((a % 2 ^ nb : Nat) : Int)).toNat) % b = a % b
    rw [ih _ h2, Int.toNat_natCast, Nat.add_mod, Nat.mod_mul_mod, ← Nat.add_mod, Nat.mul_comm, Nat.div_add_mod]
/-- the figures of a number made of figures -/
theorem dg_dv {w : Nat} : ∀ l : List Nat, (∀ d ∈ l, d < 2 ^ w) → dgN w (dvN w l) l.length = l
  | [], _ => rfl
  | d :: r, h => by
    have hd := h d (.head _)
    show (d + 2 ^ w * dvN w r) % 2 ^ w :: dgN w ((d + 2 ^ w * dvN w r) / 2 ^ w) r.length = d :: r
    rw [Nat.add_mul_mod_self_left, Nat.mod_eq_of_lt hd, Nat.add_mul_div_left _ _ (Nat.two_pow_pos w), Nat.div_eq_of_lt hd, Nat.zero_add, dg_dv r fun x hx => h x (.tail _ hx)]
theorem dv_lt {w : Nat} : ∀ l : List Nat, (∀ d ∈ l, d < 2 ^ w) → dvN w l < 2 ^ (w * l.length)
  | [], _ => by simp [dvN]
  | d :: r, h => by
    have hd := h d (.head _)
    have ih := dv_lt r fun x hx => h x (.tail _ hx)
    rw [dvN, List.length_cons, Nat.mul_succ, Nat.add_comm (w * r.length), Nat.pow_add]
    have : 2 ^ w * (dvN w r + 1) ≤ 2 ^ w * 2 ^ (w * r.length) := Nat.mul_le_mul_left _ ih
    rw [Nat.mul_succ] at this
    omega
/-- the register, over the numbers from nought -/
def itN (ta c : Nat) : Nat → Nat → Nat
  | 0, st => st
  | i + 1, st => stepN ta c (itN ta c i st)
theorem it_shift (ta c : Nat) : ∀ i st, itN ta c i (stepN ta c st) = stepN ta c (itN ta c i st)
  | 0, _ => rfl
  | i + 1, st => by rw [itN, it_shift ta c i, itN]
theorem orb_it (ta c : Nat) : ∀ n st, orbN ta c n st = (List.range n).map fun i => itN ta c i st
  | 0, _ => rfl
  | n + 1, st => by
    rw [orbN, orb_it ta c n, List.range_succ_eq_map, List.map_cons, List.map_map]
    congr 1
    apply List.map_congr_left
    intro i _
    exact it_shift ta c i st
theorem step34 {c ta st : Nat} (hc : c = 3 ∨ c = 4) (ht : ta < 2 ^ c) (hs : st < 2 ^ c) : stepF (ta : Int) (c : Int) (st : Int) = (stepN ta c st : Nat) ∧ stepN ta c st < 2 ^ c := by
  rcases hc with rfl | rfl
  · exact step3 ta ht st hs
  · exact step4 ta ht st hs
theorem st_it {c ta st : Nat} (hc : c = 3 ∨ c = 4) (ht : ta < 2 ^ c) (hs : st < 2 ^ c) : ∀ i, stN (ta : Int) (c : Int) (st : Int) i = (itN ta c i st : Nat) ∧ itN ta c i st < 2 ^ c
  | 0 => ⟨rfl, hs⟩
  | i + 1 => by
    obtain ⟨h1, h2⟩ := st_it hc ht hs i
    rw [stN, h1]
    exact step34 hc ht h2
theorem states_toI {c ta st : Nat} (n : Nat) (hc : c = 3 ∨ c = 4) (ht : ta < 2 ^ c) (hs : st < 2 ^ c) : statesF ta c st n = toI (orbN ta c n st) := by
  rw [orb_it, statesF, toI, List.map_map]
  apply List.map_congr_left
  intro i _
  exact (st_it hc ht hs i).1
theorem row_toI {c ta st : Nat} (n : Nat) (hc : c = 3 ∨ c = 4) (ht : ta < 2 ^ c) (hs : st < 2 ^ c) : rowF ta c st n = toI ((orbN ta c n st).map (· % 2)) := by
  rw [orb_it, rowF, toI, List.map_map, List.map_map]
  apply List.map_congr_left
  intro i _
  rw [(st_it hc ht hs i).1, bitAnd_m1]
  simp only [Function.comp]
  omega
theorem dv_add (w : Nat) : ∀ a b : List Nat, dvN w (addP a b) = dvN w a + dvN w b
  | [], b => by rw [addP, dvN, Nat.zero_add]
  | x :: r, [] => by rw [addP, dvN, dvN, Nat.add_zero]
  | x :: r, y :: q => by
    rw [addP, dvN, dvN, dvN, dv_add w r q, Nat.mul_add]
    omega
theorem dv_scale (w x : Nat) : ∀ b : List Nat, dvN w (b.map (x * ·)) = x * dvN w b
  | [] => rfl
  | y :: q => by
    rw [List.map_cons, dvN, dvN, dv_scale w x q, Nat.mul_add]
    congr 1
    rw [← Nat.mul_assoc, Nat.mul_comm (2 ^ w) x, Nat.mul_assoc]
theorem dv_mul (w : Nat) : ∀ a b : List Nat, dvN w (mulP a b) = dvN w a * dvN w b
  | [], b => by rw [mulP, dvN, Nat.zero_mul]
  | x :: r, b => by
    rw [mulP, dv_add, dv_scale, dvN, dvN, dv_mul w r b, Nat.zero_add, Nat.add_mul, Nat.mul_assoc]
theorem dv_appN (w : Nat) : ∀ a b : List Nat, dvN w (a ++ b) = dvN w a + 2 ^ (w * a.length) * dvN w b
  | [], b => by simp [dvN]
  | x :: r, b => by
    rw [List.cons_append, dvN, dvN, dv_appN w r b, List.length_cons, Nat.mul_succ, Nat.pow_add, Nat.mul_add, Nat.mul_comm (2 ^ (w * r.length)) (2 ^ w), Nat.mul_assoc]
    omega
theorem dv_top (w : Nat) : ∀ (l : List Nat) (i : Nat), 2 ^ (w * i) * l.getD i 0 ≤ dvN w l
  | [], i => by simp [dvN]
  | x :: r, 0 => by simp [dvN]
  | x :: r, i + 1 => by
    have h := dv_top w r i
    rw [dvN, List.getD_cons_succ, Nat.mul_succ, Nat.add_comm (w * i), Nat.pow_add, Nat.mul_assoc]
    have := Nat.mul_le_mul_left (2 ^ w) h
    omega
theorem dv_rep_pos (w : Nat) {n : Nat} (h : 2 ≤ n) : 2 ≤ dvN w (List.replicate n 1) := by
  obtain ⟨k, rfl⟩ : ∃ k, n = k + 2 := ⟨n - 2, by omega⟩
  rw [List.replicate_succ, List.replicate_succ, dvN, dvN]
  have : 0 < 2 ^ w := Nat.two_pow_pos w
  have h2 : 2 ^ w * 1 ≤ 2 ^ w * (1 + 2 ^ w * dvN w (List.replicate k 1)) := Nat.mul_le_mul_left _ (by omega)
  omega
theorem add_rep : ∀ l : List Nat, addP l (List.replicate l.length 1) = l.map (· + 1)
  | [] => rfl
  | x :: r => by
    rw [List.length_cons, List.replicate_succ, addP, add_rep r, List.map_cons]
/-- figures of at most 30: less than all ones -/
theorem dv_less {w n : Nat} {l : List Nat} (hw : 5 ≤ w) (hn : 2 ≤ n) (hl : l.length = n) (h : ∀ d ∈ l, d ≤ 30) : dvN w l < 2 ^ (w * n) - 1 := by
  have p : 32 ≤ 2 ^ w := Nat.le_trans (show 32 ≤ 2 ^ 5 by decide) (Nat.pow_le_pow_right (by decide) hw)
  have h1 := dv_lt (w := w) (l.map (· + 1)) fun d hd => by
    obtain ⟨e, he, rfl⟩ := List.mem_map.mp hd
    have := h e he
    show e + 1 < 2 ^ w
    omega
  rw [← add_rep, dv_add, add_rep, List.length_map, hl] at h1
  have h2 := dv_rep_pos w hn
  omega
theorem okW_mod {w n : Nat} {row cm : List Nat} (hw : 5 ≤ w) (hn : 2 ≤ n) (hl : cm.length = n) (h : ∀ d ∈ cm, d ≤ 30) (k : okW n cm (mulP row row.reverse) = true) :
    (dvN w row * dvN w row.reverse) % (2 ^ (w * n) - 1) = dvN w cm ∧ 2 ^ (w * (n - 1)) ≤ dvN w cm := by
  unfold okW at k
  simp only [Bool.and_eq_true, beq_iff_eq] at k
  obtain ⟨k1, k2, k3⟩ := k
  have k3 := Nat.le_of_ble_eq_true k3
  refine ⟨?_, ?_⟩
  · have e := dv_appN w ((mulP row row.reverse).take n) ((mulP row row.reverse).drop n)
    rw [List.take_append_drop, dv_mul, k2] at e
    have e2 := dv_add w ((mulP row row.reverse).take n) ((mulP row row.reverse).drop n)
    rw [k1] at e2
    have lt := dv_less hw hn hl h
    have e3 : dvN w row * dvN w row.reverse = dvN w cm + (2 ^ (w * n) - 1) * dvN w ((mulP row row.reverse).drop n) := by
      rw [e, e2, Nat.sub_mul, Nat.one_mul]
      have : dvN w ((mulP row row.reverse).drop n) ≤ 2 ^ (w * n) * dvN w ((mulP row row.reverse).drop n) := Nat.le_mul_of_pos_left _ (Nat.two_pow_pos _)
      omega
    rw [e3, Nat.add_mul_mod_self_left, Nat.mod_eq_of_lt lt]
  · refine Nat.le_trans ?_ (dv_top w cm (n - 1))
    exact Nat.le_mul_of_pos_right _ k3
/-- the row turned round, place by place -/
theorem dot_sum : ∀ a b : List Nat, a.length = b.length → dotN a b = ((List.range a.length).map fun p => a.getD p 0 * b.getD p 0).sum
  | [], [], _ => rfl
  | x :: r, y :: q, h => by
    rw [dotN, dot_sum r q (Nat.succ.inj h), List.length_cons, List.range_succ_eq_map, List.map_cons, List.sum_cons, List.map_map]
    rfl
theorem rot_step {l : List Nat} {k : Nat} (h : k < l.length) : rotN (l.drop k ++ l.take k) = l.drop (k + 1) ++ l.take (k + 1) := by
  rw [List.drop_eq_getElem_cons h, List.cons_append, rotN, List.append_assoc]
  congr 1
  rw [List.take_add_one, List.getElem?_eq_getElem h]
  rfl
theorem rot_get {l : List Nat} {k p : Nat} (hk : k ≤ l.length) (hp : p < l.length) : (l.drop k ++ l.take k).getD p 0 = l.getD ((p + k) % l.length) 0 := by
  rw [List.getD_eq_getElem?_getD, List.getD_eq_getElem?_getD]
  congr 1
  by_cases h : p < (l.drop k).length
  · rw [List.getElem?_append_left h, List.getElem?_drop]
    rw [List.length_drop] at h
    rw [Nat.mod_eq_of_lt (by omega), Nat.add_comm]
  · rw [List.getElem?_append_right (by omega), List.length_drop]
    rw [List.length_drop] at h
    have e : (p + k) % l.length = p - (l.length - k) := by
      rw [show p + k = (p - (l.length - k)) + l.length by omega, Nat.add_mod_right, Nat.mod_eq_of_lt (by omega)]
    rw [e, List.getElem?_take, if_pos (by omega)]
theorem sum_toI : ∀ l : List Nat, (toI l).sum = ((l.sum : Nat) : Int)
  | [] => rfl
  | x :: r => by
    show (x : Int) + (toI r).sum = _
    rw [sum_toI r, List.sum_cons, Int.natCast_add]
theorem getD_toI (l : List Nat) (p : Nat) : (toI l).getD p 0 = ((l.getD p 0 : Nat) : Int) := by
  rw [List.getD_eq_getElem?_getD, List.getD_eq_getElem?_getD, toI, List.getElem?_map]
  cases l[p]? <;> rfl
theorem cmn_toI {row : List Nat} {n : Nat} (h : row.length = n) (hn : 0 < n) : cmnF (toI row) n = toI (cmnN n row (rotN row)) := by
  have key : ∀ i, cmnAt (toI row) (i + 1) = ((((List.range row.length).map fun p => row.getD p 0 * row.getD ((p + (i + 1)) % row.length) 0).sum : Nat) : Int) := fun i => by
    rw [← sum_toI]
    unfold cmnAt toI
    rw [List.length_map, List.map_map]
    congr 1
    apply List.map_congr_left
    intro p _
    simp only [Function.comp]
    rw [show (List.map (fun x : Nat => (x : Int)) row).getD p 0 = _ from getD_toI row p, show (List.map (fun x : Nat => (x : Int)) row).getD ((p + (i + 1)) % row.length) 0 = _ from getD_toI row _, Int.natCast_mul]
  subst h
  unfold cmnF
  have full : cmnN row.length row (rotN row) = (List.range row.length).map fun i => ((List.range row.length).map fun p => row.getD p 0 * row.getD ((p + (i + 1)) % row.length) 0).sum := by
    have aux : ∀ m k : Nat, k + m ≤ row.length → cmnN m row (rotN (row.drop k ++ row.take k)) = (List.range m).map fun i => ((List.range row.length).map fun p => row.getD p 0 * row.getD ((p + (k + 1 + i)) % row.length) 0).sum := by
      intro m
      induction m with
      | zero => intro k _; rfl
      | succ m ih =>
        intro k hk
        rw [cmnN, rot_step (by omega), ih (k + 1) (by omega), List.range_succ_eq_map, List.map_cons, List.map_map]
        congr 1
        · rw [dot_sum _ _ (by rw [List.length_append, List.length_drop, List.length_take]; omega)]
          congr 1
          apply List.map_congr_left
          intro p hp
          rw [rot_get (by omega) (List.mem_range.mp hp), Nat.add_zero]
        · apply List.map_congr_left
          intro i _
          simp only [Function.comp, Nat.succ_eq_add_one]
          rw [show k + 1 + (i + 1) = k + 1 + 1 + i by omega]
    have := aux row.length 0 (by omega)
    rw [List.drop_zero, List.take_zero, List.append_nil] at this
    rw [this]
    apply List.map_congr_left
    intro i _
    rw [show 0 + 1 + i = i + 1 by omega]
  rw [full]
  refine (List.map_congr_left fun i _ => key i).trans ?_
  unfold toI
  rw [List.map_map]
  rfl
end Mine

-- part Plz
namespace Mine
theorem kdiv {ib w n : Nat} (hw : 0 < w) (hn : 0 < n) (h1 : w * (n - 1) < ib) (h2 : ib ≤ w * n) : (ib + w - 1) / w = n := by
  have e : w * (n - 1) + w = w * n := by rw [← Nat.mul_succ]; congr 1; omega
  have h3 : w * n + w = w * (n + 1) := by rw [Nat.mul_succ]
  refine Nat.div_eq_of_lt_le ?_ ?_
  · rw [Nat.mul_comm n w]; omega
  · rw [Nat.mul_comm (n + 1) w]; omega
theorem ceil_ge {ia nb : Nat} (h : 0 < nb) : ia ≤ nb * ((ia + nb - 1) / nb) := by
  have h1 := Nat.div_add_mod (ia + nb - 1) nb
  have h2 := Nat.mod_lt (ia + nb - 1) h
  omega
theorem pf_of {c n ta st W : Nat} (hc : c = 3 ∨ c = 4) (hn : n = 2 ^ c - 1) (ht : ta < 2 ^ c) (hs : st < 2 ^ c) (hW5 : 5 ≤ W) (hW : W ≤ 34) (h : okN c n ta st = true) : PF c n ta st W := by
  unfold okN at h
  have eS := states_toI n hc ht hs
  have eR := row_toI n hc ht hs
  obtain ⟨o, ho⟩ : ∃ o, o = orbN ta c n st := ⟨_, rfl⟩
  rw [← ho] at h eS eR
  obtain ⟨row, hrow⟩ : ∃ row, row = o.map (· % 2) := ⟨_, rfl⟩
  rw [← hrow] at h eR
  obtain ⟨cm, hcm⟩ : ∃ cm, cm = cmnN n row (rotN row) := ⟨_, rfl⟩
  obtain ⟨ot, hot⟩ : ∃ ot, ot = dvN 1 ((dgN 1 (ta + 2 ^ c) (c + 1)).reverse.take c) := ⟨_, rfl⟩
  obtain ⟨s2, hs2⟩ : ∃ s2, s2 = dvN 1 (row.reverse.take c) := ⟨_, rfl⟩
  rw [← hcm, ← hot, ← hs2] at h
  unfold okR at h
  simp only [Bool.and_eq_true, beq_iff_eq, decide_eq_true_eq, List.all_eq_true] at h
  obtain ⟨h1, h2, h3, h4, h5, h6, h8, h9, h10, h11⟩ := h
  have n7 : 0 < n := by rcases hc with rfl | rfl <;> subst hn <;> decide
  have h9 : ∀ d ∈ cm, d ≤ 30 := fun d hd => Nat.le_of_ble_eq_true (h9 d hd)
  have rl : row.length = n := by
    have := congrArg List.length eR
    rw [rowF_len, toI, List.length_map] at this
    exact this.symm
  have h7 : cmnF (toI row) n = toI cm := by rw [hcm]; exact cmn_toI rl n7
  have n2 : 2 ≤ n := by rcases hc with rfl | rfl <;> subst hn <;> decide
  obtain ⟨w1, w2⟩ := okW_mod (w := W) hW5 n2 h10 h9 h11
  refine ⟨h1, ?_, ?_, ?_⟩
  · rw [eR, h4, h5, row_toI n hc h2 h3, h6, toI_rev]
  · intro nb a m hnb ha hm
    rw [eR] at ha ⊢
    rw [← toI_rev, dv_toI, dv_toI, ← Int.natCast_mul] at ha
    have ha := Int.ofNat.inj ha
    have nb0 : 0 < nb := by
      have hb := lt_bits (2 ^ (W * n) - 1)
      rw [← hnb] at hb
      rcases Nat.eq_zero_or_pos nb with q | q
      · rw [q] at hb
        have : 1 < 2 ^ (W * n) := Nat.one_lt_two_pow (by
          have := Nat.mul_pos (show 0 < W by omega) n7
          omega)
        omega
      · exact q
    rw [qr_mod _ _ (Nat.lt_of_lt_of_le (lt_bits a) (Nat.pow_le_pow_right (by decide) (ceil_ge nb0))), ha, w1] at hm
    have cl : ∀ d ∈ cm, d < 2 ^ W := fun d hd => Nat.lt_of_le_of_lt (h9 d hd) (Nat.lt_of_lt_of_le (show 30 < 2 ^ 5 by decide) (Nat.pow_le_pow_right (by decide) hW5))
    have ml := dv_lt cm cl
    rw [h10, ← hm] at ml
    rw [← hm] at w2
    have ib1 : W * (n - 1) < Builtin.Int.intBits (m : Int) := (Nat.pow_lt_pow_iff_right (a := 2) (by decide)).mp (Nat.lt_of_le_of_lt w2 (lt_bits m))
    have ib2 : Builtin.Int.intBits (m : Int) ≤ W * n := intBits_le (by rw [Int.natAbs_natCast]; exact ml)
    rw [kdiv (by omega) n7 ib1 ib2, dg_toI, hm, h7]
    have e := dg_dv cm cl
    rw [h10] at e
    rw [e]
  · rw [eR, eS, h7]
    exact h8
theorem all_list {n : Nat} {f : Nat → Bool} (h : ((List.range n).all f) = true) {i : Nat} (hi : i < n) : f i = true := List.all_eq_true.mp h i (List.mem_range.mpr hi)
theorem ok4 {i j : Nat} (hi : i < 8) (hj : j < 15) : okN 4 15 (2 * i + 1) (j + 1) = true := by
  have : i = 0 ∨ i = 1 ∨ i = 2 ∨ i = 3 ∨ i = 4 ∨ i = 5 ∨ i = 6 ∨ i = 7 := by omega
  rcases this with rfl | rfl | rfl | rfl | rfl | rfl | rfl | rfl
  · exact all_list ok4_0 hj
  · exact all_list ok4_1 hj
  · exact all_list ok4_2 hj
  · exact all_list ok4_3 hj
  · exact all_list ok4_4 hj
  · exact all_list ok4_5 hj
  · exact all_list ok4_6 hj
  · exact all_list ok4_7 hj
theorem plain : PL := by
  intro c n ta st W c3 c4 hn s1 sn ht todd w5 w34
  have hc : c = 3 ∨ c = 4 := by omega
  refine pf_of hc hn ht (by omega) w5 w34 ?_
  obtain ⟨i, rfl⟩ : ∃ i, ta = 2 * i + 1 := ⟨ta / 2, by omega⟩
  obtain ⟨j, rfl⟩ : ∃ j, st = j + 1 := ⟨st - 1, by omega⟩
  rcases hc with rfl | rfl
  · obtain rfl : n = 7 := hn
    exact all_list (f := fun j => okN 3 7 (2 * i + 1) (j + 1)) (all_list (f := fun i => (List.range 7).all fun j => okN 3 7 (2 * i + 1) (j + 1)) ok3 (i := i) (by omega)) (by omega)
  · obtain rfl : n = 15 := hn
    exact ok4 (by omega) (by omega)
end Mine

-- part Join
namespace Mine
theorem as_was {P c : Addr} {line col : Int} {qual : PySem.Str} {h h' : Heap} (C : CodeHd h c P) (hP : h.get? P = some (tabObj #[])) (y : Tab P line col qual h') {o : Obj} (e : h.get? P = some o) : asItWas h h' P o := by
  rw [hP] at e
  cases e
  refine .inr (.inl ⟨(C.tab hP).isCodeTable, rfl, #[], ?_⟩)
  rcases y with y | ⟨c', y, _⟩
  · exact ⟨#[], rfl, y⟩
  · exact ⟨#[rawInt line, rawInt col, .ref c'], rfl, by rw [Array.empty_append]; exact y⟩
theorem old_was {h h' : Heap} (x : Ext [37, 44] h h') (w37 : ∀ o, h.get? 37 = some o → asItWas h h' 37 o) (w44 : ∀ o, h.get? 44 = some o → asItWas h h' 44 o) (y1 : Tab 37 39 4 qI h') (y2 : Tab 44 54 4 qD h') : OldK h h' := by
  have key : ∀ b : Addr, b = 37 ∨ b = 44 ∨ b ∉ [37, 44] := fun b => by
    by_cases h1 : b = 37
    · exact .inl h1
    · by_cases h2 : b = 44
      · exact .inr (.inl h2)
      · exact .inr (.inr fun q => by
          rcases List.mem_cons.mp q with q | q
          · exact h1 q
          · exact h2 (List.mem_singleton.mp q))
  refine ⟨fun b o e => ?_, fun b o e => ?_⟩
  · rcases key b with rfl | rfl | n
    · exact w37 o e
    · exact w44 o e
    · exact .inl (x b o n e)
  · rcases key b with rfl | rfl | n
    · exact y1.get
    · exact y2.get
    · exact ⟨o, x b o n e⟩
theorem join : PySem.Challenge.rw_we0014_01.Holds := by
  refine hd ?_
  intro w s₀ s₁ mg mb G Y fa o pm cd doc dV kV ho hd hcd hD hmg hg args vals as hpre hlay hrd hwl hlo
  have KX := km_in_of Y
  have hT8 := km_tabs_of Y
  have X := (Ground.X G).1
  refine Ground.open G ?_
  intro T B D TE TW
  km_lay T hmg ho hd cd
  clear hD
  wrow_args hpre hlay hrd hwl hlo
  have e136 := mg_of KX T.g (show nsIn (Mine.hd.heap_39 w.params) mainGlobals (PySem.Str.ofString "law") = some (some (.ref 136)) by kernel_rfl)
  have e137 : mg (PySem.Str.ofString "law") = some (.ref fa) := hmg
  rw [e136] at e137
  cases e137
  have GD : Gd w topProg _ (ExcName.means s₀.heap) mg mb (ghostOf s₁.heap [(48, 44), (41, 37)]) := ⟨ghost_K hT9 KX (by kernel_rfl), ghost_top hT9 T, (ghost_code hT9).2.1, (ghost_code hT9).1⟩
  have RM : Rm 61 callerA := ⟨rfl, by rw [depth_caller]; decide, by rw [units_caller, cLine_is]; omega⟩
  rename IntsAre _ _ => hi
  rename Heap.IsList _ _ _ => hl
  refine law_spec GD (fun b o e => of_hideAll _ e) (hideAll_none _ (by simp)) (hideAll_none _ (by simp)) RM (.inl (hT8 37 (by simp))) (.inl (hT8 44 (by simp))) plain hl hi (by omega) fun h' tk x y1 y2 => ?_
  have t37 := hT9 (41, 37) (by simp)
  have t44 := hT9 (48, 44) (by simp)
  refine ⟨.inl ⟨_, .bool true, [], rfl, fun _ => rfl, .bool true, ?_, fun _ => ⟨.nil, fun _ ha => nomatch ha⟩⟩, old_was x (fun o e => as_was t37.1 t37.2 y1 e) (fun o e => as_was t44.1 t44.2 y2 e) y1 y2, rfl, .of_eq hg⟩
  wrow_post
end Mine
end

theorem PySem.Challenge.cw_we0014_01_holds : PySem.Challenge.rw_we0014_01.Holds := by
  exact Mine.join

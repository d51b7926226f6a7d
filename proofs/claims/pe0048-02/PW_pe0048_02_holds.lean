import PyProof.Rows.All
import Wide.All
import OpenK.AllK
import Wide.FinOn
import PySem.Challenge.RW_pe0048_02
set_option Elab.async false
set_option linter.unusedVariables false
set_option linter.unusedSimpArgs false
theorem Mine.off_RLayer : True := by
  w_top off
  trivial
section
open PySem PySem.W PyProof.Rows PySem.Calls
set_option Elab.async false
set_option maxRecDepth 100000
set_option maxHeartbeats 8000000
namespace Mine

/-- a code that may hold an object's buffer open while others run above it -/
def holds : Code → Bool
  | .builtin id _ => (["bytearray.__contains__", "bytearray.__mod__", "bytearray.__rmod__", "_struct.pack_into.held", "bytearray.find.held"] ++ Builtin.Bytes.decodersThatHold).contains id
  | _ => false
def Clean (l : List (Code × Pos)) : Prop := ∀ x ∈ l, holds x.1 = false

def wpR {α : Type} (M : Model) (A : Around) (t : Sem α) (Q : α → Shared → Prop) (E : Value → Shared → Prop) (s : Shared) : Prop :=
  ∀ Γ p, Γ.In A → holds Γ.code = false → Clean Γ.below → Sem.wp M Γ t (fun a _ s' => Q a s') (fun e _ s' => E e s') p s
def codeR (M : Model) (A : Around) (c : Code) (R : Result → Shared → Prop) (s : Shared) : Prop :=
  ∀ Γ p, Γ.code = c → Γ.Below A → Clean Γ.below → wpCode M Γ R p s

section
variable {α β : Type} {M : Model} {A : Around} {E : Value → Shared → Prop} {s : Shared}
theorem wpR_of_any {t : Sem α} {Q : α → Shared → Prop} (h : wpAny M A t Q E s) : wpR M A t Q E s := fun Γ p hΓ _ _ => h Γ p hΓ
theorem codeR_of_any {c : Code} {R : Result → Shared → Prop} (h : codeAny M A c R s) : codeR M A c R s := fun Γ p hc hΓ _ => h Γ p hc hΓ
theorem wpR_pure {a : α} {Q : α → Shared → Prop} (h : Q a s) : wpR M A (pure a) Q E s := fun _ _ _ _ _ => h
theorem wpR_mono {t : Sem α} {Q Q' : α → Shared → Prop} {E' : Value → Shared → Prop} (h : wpR M A t Q E s)
    (hQ : ∀ a s, Q a s → Q' a s) (hE : ∀ e s, E e s → E' e s) : wpR M A t Q' E' s :=
  fun Γ p hΓ h1 h2 => Sem.wp_mono M Γ t (fun a _ s => hQ a s) (fun e _ s => hE e s) p s (h Γ p hΓ h1 h2)
theorem wpR_bind {m : Sem α} {f : α → Sem β} {Q : β → Shared → Prop} (h : wpR M A m (fun a s' => wpR M A (f a) Q E s') E s) :
    wpR M A (m >>= f) Q E s := fun Γ p hΓ h1 h2 => by
  rw [Sem.wp_bind']
  exact Sem.wp_mono M Γ m (fun a p' s' h' => h' Γ p' hΓ h1 h2) (fun _ _ _ h' => h') p s (h Γ p hΓ h1 h2)
/-- the first part by the library's logic, the rest by this one -/
theorem wpR_bindA {m : Sem α} {f : α → Sem β} {Q : β → Shared → Prop} (h : wpAny M A m (fun a s' => wpR M A (f a) Q E s') E s) :
    wpR M A (m >>= f) Q E s := wpR_bind (wpR_of_any h)
theorem wpR_map {m : Sem α} {f : α → β} {Q : β → Shared → Prop} (h : wpR M A m (fun a s' => Q (f a) s') E s) :
    wpR M A (f <$> m) Q E s := fun Γ p hΓ h1 h2 => by rw [Sem.wp_map]; exact h Γ p hΓ h1 h2
theorem wpR_holding {vs : List Value} {m : Sem α} {Q : α → Shared → Prop} (h : wpR M A m Q E s) : wpR M A (holding vs m) Q E s :=
  fun Γ p hΓ h1 h2 => by rw [Sem.wp_holding]; exact h Γ p hΓ h1 h2
theorem wpR_keep {vs : List Value} {m : Sem α} {Q : α → Shared → Prop} (h : wpR M A m Q E s) : wpR M A (m.keep vs) Q E s :=
  fun Γ p hΓ h1 h2 => by rw [Sem.wp_keep]; exact h Γ p hΓ h1 h2
theorem wpR_onRaise {m : Sem α} {k : Value → Sem Unit} {Q : α → Shared → Prop}
    (h : wpR M A m Q (fun e s' => wpR M A (k e) (fun _ s'' => E e s'') E s') s) : wpR M A (m.onRaise k) Q E s := fun Γ p hΓ h1 h2 => by
  rw [Sem.wp_onRaise]
  exact Sem.wp_mono M Γ m (fun _ _ _ h' => h') (fun e p' s' h' => h' Γ p' hΓ h1 h2) p s (h Γ p hΓ h1 h2)
theorem wpR_attempt {m : Sem α} {Q : Except Value α → Shared → Prop} (h : wpR M A m (fun a => Q (.ok a)) (fun e => Q (.error e)) s) :
    wpR M A m.attempt Q E s := fun Γ p hΓ h1 h2 => by rw [Sem.wp_attempt]; exact h Γ p hΓ h1 h2
theorem wpR_standAt {pos : Pos} {Q : Unit → Shared → Prop} (h : Q () s) : wpR M A (standAt pos) Q E s := fun _ _ _ _ _ => h
theorem wpR_run {c : Code} {Q : Flow → Shared → Prop} (hc : codeR M A c (fun r s' => match r with | .ok f => Q f s' | .error e => E e s') s) :
    wpR M A (run c) Q E s :=
  fun Γ p hΓ h1 h2 => by
    rw [Sem.wp_run]
    refine hc _ p rfl (hΓ.enter c none p (by intro x; cases x)) ?_
    intro x hx
    rcases List.mem_cons.mp hx with rfl | hx
    · exact h1
    · exact h2 x hx
theorem wpR_call {f : Value} {pos : List Value} {kw : List (Str × Value)} {Q : Value → Shared → Prop}
    (hc : codeR M A (.call f ⟨pos, kw⟩) (fun r s' => match r with | .ok (.ret v) => Q v s' | .ok _ => False | .error e => E e s') s) :
    wpR M A (call f pos kw) Q E s := fun Γ p hΓ h1 h2 => by
  unfold call
  rw [Sem.wp_runValue]
  refine hc _ p rfl (hΓ.enter _ none p (by intro x; cases x)) ?_
  intro x hx
  rcases List.mem_cons.mp hx with rfl | hx
  · exact h1
  · exact h2 x hx
theorem codeR_mono {c : Code} {R R' : Result → Shared → Prop} (h : codeR M A c R s) (hR : ∀ r s, R r s → R' r s) : codeR M A c R' s :=
  fun Γ p hc hΓ hC => wpCode_mono hR (h Γ p hc hΓ hC)
theorem codeR_of_tree {c : Code} {R : Result → Shared → Prop} (hn : holds c = false)
    (h : wpR M (A.under c) (M.den c) (fun fin s' => match fin with | .done f => R (.ok f) s' | .again c' => c'.quiet = true ∧ codeR M A c' R s')
      (fun e s' => R (.error e) s') s) : codeR M A c R s := fun Γ p hc hΓ hC => by
  rw [wpCode_iff_wp, hc]
  refine Sem.wp_mono M Γ _ (fun fin p' s' h' => ?_) (fun _ _ _ h' => h') p s (h Γ p (hc ▸ hΓ.in) (hc ▸ hn) hC)
  cases fin with
  | done f => exact h'
  | again c' => exact ⟨h'.1, h'.2 (Γ.goto c') p' rfl (hΓ.goto c') hC⟩
end

section
variable {prog : Program} {w : World} {A : Around} {s : Shared} {R : Result → Shared → Prop}
theorem codeR_builtin {id : String} {args : Args} {b : Builtin} (hn : holds (.builtin id args) = false) (hb : entryFor table id = some b)
    (h : wpR (model prog w) (A.under (.builtin id args)) (b args)
      (fun fin s' => match fin with | .done f => R (.ok f) s' | .again c' => c'.quiet = true ∧ codeR (model prog w) A c' R s') (fun e s' => R (.error e) s') s) :
    codeR (model prog w) A (.builtin id args) R s := by
  refine codeR_of_tree hn ?_
  show wpR _ _ (match entryFor table id with | some b => b args | none => unsupported ((withoutEnding? id "#data").getD id)) _ _ s
  rw [hb]; exact h
theorem codeR_func {body : List Stmt} {env : Env}
    (h : wpR (model prog w) (A.deeper env) (execs body env) (fun f s' => R (.ok (.ret (match f with | .ret v => v | _ => .none))) s')
      (fun e s' => wpR (model prog w) (A.deeper env) (leaving env e) (fun _ s'' => R (.error e) s'') (fun e' s'' => R (.error e') s'') s') s) :
    codeR (model prog w) A (.func body env) R s := by
  refine codeR_of_tree rfl ?_
  show wpR _ (A.deeper env) (do point; match ← (execs body env).onRaise (leaving env) with | .ret v => ret v | _ => ret .none) _ _ s
  refine wpR_bindA (wpAny_point (wpR_bind (wpR_onRaise (wpR_mono h (fun f s' h' => ?_) fun _ _ h' => h'))))
  cases f <;> exact wpR_pure h'
theorem codeR_call_function {a : Addr} {args : Args} {o : Obj} {fd : FuncData} {body : List Stmt} (hroom : A.depth < recursionLimit)
    (ho : s.heap.get? a = some o) (hd' : o.data = .func fd) (hco : fd.scope.isCoroutine = false) (hgen : fd.scope.isGenerator = false) (hbody : fd.body = .stmts body) (hcd : s.heap.CodeRec fd.code fd.qualname)
    (h : wpAny (model prog w) A.in1 (bindArgs fd args) (fun binds s₁ =>
      wpAny (model prog w) A.in1 (newFunctionEnv fd.scope fd.globals fd.closure binds (fd.qualname ++ ".<locals>.") (some a) fd.code none fd.builtins)
        (fun env s₂ => s₂.heap.NoLimit ∧ codeR (model prog w) A (.func body env) R s₂) (fun e s' => R (.error e) s') s₁) (fun e s' => R (.error e) s') s) :
    codeR (model prog w) A (.call (.ref a) args) R s := by
  refine codeR_of_tree rfl ?_
  refine wpR_of_any ?_
  show wpAny _ A.in1 (callAny (.ref a) args) _ _ s
  simp only [callAny]
  refine wpAny_bind (wpAny_load ho ?_)
  obtain ⟨c, oc, vs, tq, hc, hoc, hdc, hq⟩ := hcd
  simp only [hd', callFunction, hco, hgen, hbody, hc]
  rw [hc] at h
  refine wpAny_bind (m := field (.ref c) 1) (wpAny_field hoc hdc hq (wpAny_bind (wpAny_pure ?_)))
  exact wpAny_bind (wpAny_mono h (fun binds s₁ h₁ => wpAny_bind (wpAny_mono h₁ (fun env s₂ h₂ => wpAny_bind (wpAny_enterFrame h₂.1 hroom
    (wpAny_pure (And.intro rfl h₂.2)))) fun _ _ h' => h')) fun _ _ h' => h')
theorem codeR_call_def {a : Addr} {o : Obj} {fd : FuncData} {body : List Stmt} {args : Args} {binds : List (Str × Value)}
    (hroom : A.depth < recursionLimit) (ho : s.heap.get? a = some o) (hdata : o.data = .func fd) (hlim : s.heap.NoLimit) (hcd : s.heap.CodeRec fd.code fd.qualname)
    (hbody : fd.body = .stmts body) (hbind : BindsTo s fd args binds)
    (hcell : ∀ x ∈ fd.scope.names, x.2 ≠ .cell) (hloc : ∀ x ∈ binds, fd.scope.names.lookup x.1 = some .local)
    (h : ∀ h₀, h₀.Ns s.heap.objs.size (fun x => binds.reverse.lookup x) → (∀ b o, s.heap.get? b = some o → h₀.get? b = some o) →
      wpR (model prog w) (A.deeper (callEnv fd s.heap.objs.size a)) (execs body (callEnv fd s.heap.objs.size a)) (fun f s' => R (.ok (.ret (match f with | .ret v => v | _ => .none))) s')
        (fun e s' => wpR (model prog w) (A.deeper (callEnv fd s.heap.objs.size a)) (leaving (callEnv fd s.heap.objs.size a) e) (fun _ s'' => R (.error e) s'') (fun e' s'' => R (.error e') s'') s')
        { s with heap := h₀, toks := s.toks + binds.length })
    (hco : fd.scope.isCoroutine = false) (hgen : fd.scope.isGenerator = false) (hk : fd.scope.kind = .function) :
    codeR (model prog w) A (.call (.ref a) args) R s := by
  refine codeR_call_function hroom ho hdata hco hgen hbody hcd (hbind _ _ _ _ ?_)
  refine wpAny_newFunctionEnv hcell hloc (fun h₀ hns₀ hsb₀ => ⟨hlim.fresh _ hsb₀, codeR_func (h h₀ hns₀ fun b o e => ?_)⟩) hk
  exact hsb₀.extBut b o (Nat.ne_of_lt (Heap.lt_size e)) (Heap.get?_push_of_some _ e)
end
end Mine
end
theorem Mine.off_RHead : True := by
  w_top off
  trivial
section
open PySem PySem.W PyProof.Rows PySem.Calls
set_option Elab.async false
set_option maxRecDepth 100000
set_option maxHeartbeats 8000000
namespace Mine
theorem caller_clean : holds (⟨.builtin "claim.caller" {}, none, none, [], none⟩ : Ctx).code = false := by decide +kernel
theorem ends_R {prog : Program} {w : World} {t : Sem Fin} {s : Shared} {R : Result → Shared → Prop} (hreg : s.asleep)
    (h : wpR (model prog w) callerA t (fun fin s' => ∃ f, fin = .done f ∧ (R (.ok f) s' ∧ leftWithCleanup s'.gens = false)) (fun e s' => R (.error e) s' ∧ leftWithCleanup s'.gens = false) s) :
    ∃ n r s' s'', runN (denote table) prog w n s ⟨t, .builtin "claim.caller" {}, default, []⟩ = .halted (outcomeOf r) s' ∧
      schedN (denote table) prog w n (.single s ⟨t, .builtin "claim.caller" {}, default, []⟩) = .halted (outcomeOf r) s' ∧ s'.forget = s''.forget ∧ R r s'' := by
  have h0 := h ⟨.builtin "claim.caller" {}, none, none, [], none⟩ default caller_in caller_clean (fun _ hx => nomatch hx)
  obtain ⟨n, r, s₁, s₂, hs, hn, hfo, hR⟩ := wp_halts_full (M := model prog w) (R := R) hreg
    (Sem.wp_mono _ _ _ (fun fin p' s' hq => by obtain ⟨f, rfl, hq⟩ := hq; exact hq) (fun _ _ _ hq => hq) _ _ h0)
  exact ⟨n, r, s₂, s₁, hn, hs, hfo, hR⟩

theorem callFrom_R {c : ClaimW} {tree : List Value → Sem Fin} {w : World} {s : Shared} {free : Addr → Prop} {gens : Prop} {kept : Heap → Prop} (hz : s.asleep) (hgens : s.gens = #[])
    (hspec : ∀ args, c.pre args = true → WData.layableAll args = true →
      ∀ ord : List DictEntry → List DictEntry, (∀ l, (ord l).Perm l) →
      ∃ vs s₁, layAllW c.records (classAt s.heap) w.params ord args s = some (vs, s₁) ∧
        wpR (model c.prog w) callerA (tree vs) (fun fin s' => ∃ f, fin = .done f ∧ (c.Ends s args vs s₁ (.ok f) s' ∧ s'.os = s.os ∧ AllBare s'.gens ∧ kept s'.heap))
          (fun e s' => c.Ends s args vs s₁ (.error e) s' ∧ s'.os = s.os ∧ AllBare s'.gens ∧ kept s'.heap) s₁) :
    c.CallFrom (fun vs => ⟨tree vs, .builtin "claim.caller" {}, default, []⟩) w free gens kept s := by
  intro args hpre hlay ord hord
  obtain ⟨vs, s₁, hlaid, hcode⟩ := hspec args hpre hlay ord hord
  have hal := layAllW_rest _ _ _ hlaid
  obtain ⟨k, r, s', s'', hrun, hsched, hfo, hcase, hos, hkp⟩ := ends_R (prog := c.prog) (w := w) (t := tree vs) (s := s₁)
    (R := fun r s' => c.Ends s args vs s₁ r s' ∧ s'.os = s.os ∧ kept s'.heap) (Shared.asleep_of_life hal.2.2.2 hz)
    (wpR_mono hcode (fun fin s' ⟨f, e, h1, h2, h3, h4⟩ => ⟨f, e, ⟨h1, h2, h4⟩, leftWithCleanup_false_of_bare h3⟩)
      (fun e s' ⟨h1, h2, h3, h4⟩ => ⟨⟨h1, h2, h4⟩, leftWithCleanup_false_of_bare h3⟩))
  obtain ⟨eh, _, _, eo, _⟩ := Shared.forget_eq hfo
  have hcase := hcase.congr eh
  have hkp : kept s'.heap := by rw [eh]; exact hkp
  rw [← eo] at hos
  have hlife : s'.heap.life = s.heap.life := (runN_life _ _ _ hrun).trans hal.2.2.2
  refine ⟨vs, s₁, hlaid, k, _, s', hsched, ?_, (fun _ i x hx => by rw [hgens] at hx; simp at hx), hkp, by rw [hlife], Shared.rest_eq hos⟩
  rcases hcase with ⟨v, rfl, d1, d2, d3, d4, d5⟩ | ⟨e, ob, cls, rfl, d1, d2, d3, d4, d5⟩
  · exact .inl ⟨v, rfl, d1, d2, d3, fun b o y _ => d4 b o y, d5⟩
  · exact .inr ⟨e, ob, cls, rfl, d1, d2, d3, d4, fun b o y _ => d5 b o y⟩

/-- what is left to show: the law's call, from a clean caller alone -/
abbrev WalkR (q : Program) (loose : List Str) (XP : (Str → Option Value) → Heap → Prop) (YP : World → Heap → Prop) (r : RowW) (d : DefRec) (kwd : List (Str × Expr)) : Prop :=
  ∀ (w : World) (s₀ s₁ : Shared) (mg mb : Str → Option Value), Ground q loose r.records XP w s₀ mg mb s₁.heap → YP w s₁.heap → ∀ (a : Addr) (o : Obj) (pm cd doc dV kV : Value), s₁.heap.get? a = some o →
    o.data = .func { docDef d.name d.params d.body d.scope pm cd doc with defaults := dV, kwdefaults := kV } → s₁.heap.CodeRec cd d.name → Dflts mg s₁.heap d.params kwd dV kV → mg d.name = some (.ref a) → s₁.gens = #[] →
    ∀ (args : List WData) (vals : List Value) (as : List Addr), r.claim.pre args = true → WData.layableAll args = true → ReadsAllW r.records (classAt s₀.heap) s₁.heap vals args as → WellAll w.params s₁.heap vals args → (∀ a ∈ as, (a == sysModules) = false) →
      wpR (model r.prog w) callerA (PySem.call (.ref a) vals) (fun v s' => GoodWG r.claim (classAt s₀.heap) (ExcName.means s₀.heap) args s₁ (.ok (.ret v)) s')
        (fun e s' => GoodWG r.claim (classAt s₀.heap) (ExcName.means s₀.heap) args s₁ (.error e) s') s₁

theorem open_R {r : RowW} {q : Program} {loose defs kps : List Str} {writes : Bool} {Xt : Shared → Bool} {XP : (Str → Option Value) → Heap → Prop} {α : Type} {Yf : Shared → α} {Ya : World → α} {YP : World → Heap → Prop} {N : Nat}
    (left : LeftO r.prog q loose Xt Yf Ya N) (hY : ∀ w s, Yf s = Ya w → YP w s.heap) (hYk : ∀ w h h', YP w h → (∀ b o, h.get? b = some o → h'.get? b = some o) → YP w h') (hX : ∀ s, Xt s = true → XP (s.heap.nsMap mainGlobals) s.heap) (hXk : ∀ mg h h', XP mg h → (∀ b o, h.get? b = some o → h'.get? b = some o) → XP mg h')
    (hRf : ∀ s, Xt s = true → RecFacts r.records s.heap) (hwr : (!writes || r.records.isEmpty) = true) (ok : (chainsOk q && opensWell r.prog && (frees r && r.within.isEmpty)) = true) (hb : r.prog.bare) (hw : r.promised)
    (pin : ∀ w s, s.heap.isNs mainGlobals = true → Ground q loose [] XP w s (s.heap.nsMap mainGlobals) (s.heap.nsMap builtinsNs) s.heap → ∀ n ∈ defs, isTheDefsW r.prog s.heap n)
    (call : ∀ (w : World) (s₀ s₁ : Shared) (mg mb : Str → Option Value), Ground q loose r.records XP w s₀ mg mb s₁.heap → YP w s₁.heap → ∀ (args : List WData) (vs : List Value) (as : List Addr),
      r.claim.pre args = true → WData.layableAll args = true → Laid r.records w s₀ s₁ args vs as → sysModules < s₀.heap.objs.size → ∃ f, mg r.name = some f ∧
        wpR (model r.prog w) callerA (PySem.call f vs) (fun v s' => GoodWG r.claim (classAt s₀.heap) (ExcName.means s₀.heap) args s₁ (.ok (.ret v)) s')
          (fun e s' => GoodWG r.claim (classAt s₀.heap) (ExcName.means s₀.heap) args s₁ (.error e) s') s₁) :
    r.claim.HoldsOpenBy (fun vs => ⟨do match ← nsGet mainNs r.name with
      | some f => do ret (← PySem.call f vs)
      | none => unsupported "claim.caller:no-such-global", .builtin "claim.caller" {}, default, []⟩) defs kps writes := by
  obtain ⟨ok, k5⟩ := Bool.and_eq_true_iff.mp ok
  obtain ⟨hch, o1⟩ := Bool.and_eq_true_iff.mp ok
  obtain ⟨k5, k6⟩ := Bool.and_eq_true_iff.mp k5
  obtain ⟨hsame, hu, ha, hap, hm⟩ := frees_parts k5
  refine ⟨⟨hb, o1, by show r.makers.map _ = []; rw [hm]; rfl⟩, hw.witness, fun w => ⟨(left.behind hX hch w).1, fun s' hs' => ?_⟩⟩
  obtain ⟨s₀, hf, hg0, s, hT, hz, hgens, hg, G00, y⟩ := (left.behind (XP := fun mg h => XP mg h ∧ RecFacts r.records h) (fun s hs => ⟨hX s hs, hRf s hs⟩) hch w).2 s' hs'
  have G0 : Ground q loose [] XP w s (s.heap.nsMap mainGlobals) (s.heap.nsMap builtinsNs) s.heap := ⟨G00.T, G00.B, G00.D, G00.TE, G00.TD, G00.W, G00.X.1, G00.cls, G00.has, G00.apart, G00.once, G00.K⟩
  have RF := G00.X.2
  have hT' := hT
  refine ⟨s₀, hf, hg0, s, hT, pin w s hg G0, RF.1, RF.2.1, ?_⟩
  have hgens : s.gens = #[] := Array.eq_empty_of_size_eq_zero (beq_iff_eq.mp hgens)
  have G : Ground q loose r.records XP w s _ _ s.heap := RF.ground G0
  refine callFrom_R (c := r.claim) hz hgens fun args hpre hlay ord hord => ?_
  obtain ⟨⟨vs, s₁⟩, hlaid⟩ := Option.isSome_iff_exists.mp (layAllW_isSome (P := w.params) (ord := ord) G.has args r.args s (pre_splitW hpre).1)
  have keeps := layAllW_keeps _ _ _ hlaid
  have hal := layAllW_rest _ _ _ hlaid
  obtain ⟨as, hrd, hin, hold⟩ := reads_layAllW hord _ _ _ hlaid hlay s₁.heap (fun _ _ e => e)
  have L : Laid r.records w s s₁ args vs as := ⟨⟨ord, hord, hlaid⟩, hrd, hin, hold, keeps, hal.1.trans hgens, hal.2.2.1⟩
  have G₁ := G.keeps hXk keeps
  obtain ⟨f, hf, h⟩ := call w s s₁ _ _ G₁ (hYk _ _ _ (hY w s y) keeps) args vs as hpre hlay L G.low
  have hi := ident_freeW hu ha hap
  have hwi : r.claim.within = [] := List.isEmpty_iff.mp k6
  refine ⟨vs, s₁, hlaid, wpR_bindA (wpAny_nsGet G₁.T.g ?_)⟩
  rw [hf]
  refine wpR_bind (wpR_mono h (fun v s' g => wpR_pure ⟨_, rfl, have z := g.laid (c := r.claim) hsame hwi hi L; ⟨z.1, z.2.1, z.2.2, fun q => ⟨namesKept_of hT' hg kps keeps g.2.1.old, noTable hwr q⟩⟩⟩) fun e s' g => have z := g.laid (c := r.claim) hsame hwi hi L; ⟨z.1, z.2.1, z.2.2, fun q => ⟨namesKept_of hT' hg kps keeps g.2.1.old, noTable hwr q⟩⟩)

/-- the library's head asks for its last lemma by this name: here it is met by the clean callers' one -/
theorem PySem.W.holds_open {r : OpenRow} {q : Program} {loose : List Str} {Xt : Shared → Bool} {XP : (Str → Option Value) → Heap → Prop} {α : Type} {Yf : Shared → α} {Ya : World → α} {YP : World → Heap → Prop} {d : DefRec} {kwd : List (Str × Expr)} {N : Nat}
    (left : LeftO r.prog q loose Xt Yf Ya N) (hY : ∀ w s, Yf s = Ya w → YP w s.heap) (hYk : ∀ w h h', YP w h → (∀ b o, h.get? b = some o → h'.get? b = some o) → YP w h')
    (hX : ∀ s, Xt s = true → XP (s.heap.nsMap mainGlobals) s.heap) (hXk : ∀ mg h h', XP mg h → (∀ b o, h.get? b = some o → h'.get? b = some o) → XP mg h')
    (hdef : defOf q r.name = some (d, kwd)) (hp : r.prog.theDef r.name = some (d.params, d.body, d.scope)) (hk : kwWritten? d.params.kwonlyargs d.params.kw_defaults = some kwd) (hRf : ∀ s, Xt s = true → RecFacts r.records s.heap) (hwr : (!r.writes || r.records.isEmpty) = true)
    (k1 : r.wellSaid = true) (ok : (chainsOk q && opensWell r.prog && (frees r.toRowW && r.within.isEmpty)) = true) (hb : r.prog.bare) (hw : r.toRowW.promised)
    (call : WalkR q loose XP YP r.toRowW d kwd) : r.Holds := by
  refine ⟨k1, hw, open_R (r := r.toRowW) left hY hYk hX hXk hRf hwr ok hb hw (fun w s hg G n hn => ?_) fun w s₀ s₁ mg mb G Y args vs as hpre hlay L low => ?_⟩
  · obtain rfl : n = r.name := by split at hn <;> simp_all
    exact pinned_of_view hg G hdef hp hk
  · obtain ⟨a, o, pm, cd, doc, dV, kV, h1, h2, h3, h4, h5⟩ := G.fn hdef
    exact ⟨.ref a, h1, call w s₀ s₁ mg mb G Y a o pm cd doc dV kV h2 h3 h4 h5 (defOf_name hdef ▸ h1) L.gens args vs as hpre hlay L.reads L.well (L.low low)⟩
end Mine
end
theorem Mine.off_HR2 : True := by
  w_top off
  trivial
section
open PySem PySem.W PyProof.Rows
set_option Elab.async false
namespace Mine
set_option maxRecDepth 100000 in
set_option maxHeartbeats 8000000 in
open_top hd2 for PySem.Challenge.rw_pe0048_02
end Mine
end
theorem Mine.off_BaNew : True := by
  w_top off
  trivial
section
open PySem PySem.W PyProof.Rows PySem.Calls
set_option Elab.async false
set_option maxRecDepth 100000
set_option maxHeartbeats 8000000
namespace Mine
theorem ba_mro : mroOf (.type "bytearray") = pure [.type "bytearray", .type "object"] := by rw [mroOf_type]; kernel_rfl
theorem ba_lookup_new : typeLookup (.type "bytearray") "__new__" = pure (some (.builtin "bytearray.__new__")) := by rw [typeLookup_type, builtinLookup_eq_fast]; kernel_rfl
theorem ba_slot_init : Slot "bytearray" "__init__" "bytearray.__init__" :=
  .of (owner := "bytearray") (n := "__init__") (by rw [typeLookup_type, builtinLookup_eq_fast]; kernel_rfl) (by decide +kernel) (by decide +kernel) (by decide +kernel)
    (by first | exact .inl (by decide +kernel) | exact .inr (by decide +kernel)) (by rw [isSubtype_type]; kernel_rfl)
theorem ba_called : TypeCalled "bytearray" "bytearray.__new__" "bytearray.__init__" :=
  ⟨by decide +kernel, by decide +kernel, ⟨_, _, ba_mro⟩, madeBy_type ba_mro ba_lookup_new (by decide +kernel), by decide +kernel, by rw [isSubtype_type]; kernel_rfl, ba_slot_init⟩
theorem ba_typeCall (a : Value) : checkTypeCall "bytearray" ⟨[a], []⟩ = pure () := by kernel_rfl
theorem ba_newCall (a : Value) : checkBuiltinCall "bytearray.__new__" ⟨[.type "bytearray", a], []⟩ = pure () := by kernel_rfl
theorem ba_args (a b : Value) : argsOk "bytearray.__init__" ⟨[a, b], []⟩ := by unfold argsOk; kernel_rfl
theorem ba_plain : plainId "bytearray.__new__" = true := by decide +kernel
theorem ba_plain_init : plainId "bytearray.__init__" = true := by decide +kernel
theorem ba_entry_init : entryFor table "bytearray.__init__" = some Builtin.«bytearray.__init__» := by first | exact entryFor_of_fast (by kernel_rfl) | exact entryFor_of_tree (by kernel_rfl)
theorem ba_entry_new : entryFor table "bytearray.__new__" = some Builtin.«list.__new__» := entryFor_alias (id' := "list.__new__") (by kernel_rfl) rfl (by decide +kernel) (by kernel_rfl)
set_option maxRecDepth 1000000 in
theorem ba_owner : ("bytearray.__new__".splitOn ".__new__").headD "" = "bytearray" := by simp +decide [String.splitOn, String.splitOnAux]
theorem ba_sub : isSubtype (.type "bytearray") (.type "bytearray") = pure true := by rw [isSubtype_type]; kernel_rfl
section
variable {prog : Program} {w : World} {A : Around} {E : Value → Shared → Prop} {s : Shared}
theorem ba_code_new (a : Value) {Q₁ : Value → Shared → Prop}
    (h : Q₁ (.ref s.heap.objs.size) { s with heap := s.heap.push { cls := .type "bytearray", data := .bytearray #[] } }) :
    codeAny (model prog w) A (.call (.builtin "bytearray.__new__") ⟨[.type "bytearray", a], []⟩) (wants Q₁ E) s := by
  refine codeAny_of_tree ?_
  show wpAny _ A.in1 (do checkBuiltinCall "bytearray.__new__" ⟨[.type "bytearray", a], []⟩; again (.builtin "bytearray.__new__" ⟨[.type "bytearray", a], []⟩)) _ _ s
  refine wpAny_bind (wpAny_of_eq (ba_newCall a) (wpAny_pure ⟨plainId_quiet ba_plain _, codeAny_builtin_stack ba_entry_new rfl fun p st => ?_⟩))
  rw [Around.under_plainId ba_plain _]
  have hsub := ba_sub
  have hown := ba_owner
  obtain ⟨hp, g, d, tk, os⟩ := s
  simp only [hown]
  wp_walk
  exact h
end
end Mine
end
theorem Mine.off_BaInit : True := by
  w_top off
  trivial
section
open PySem PySem.W PyProof.Rows PySem.Calls
set_option Elab.async false
set_option maxRecDepth 100000
set_option maxHeartbeats 8000000
namespace Mine
theorem ba_look_release : typeLookup (.type "bytearray") "__release_buffer__" = pure (some (.builtin "bytearray.__release_buffer__")) := by rw [typeLookup_type, builtinLookup_eq_fast]; kernel_rfl
theorem ba_bind (v : Value) : Builtin.Bytes.bindOptional "bytearray.__init__" "bytearray" ["source", "encoding", "errors"] [v] [] = pure [some v, none, none] := by kernel_rfl
theorem ba_int_index : typeLookup (.type "int") "__index__" = pure (some (.builtin "int.__index__")) := by rw [typeLookup_type, builtinLookup_eq_fast]; kernel_rfl
theorem ba_rel_ends : ("bytearray.__release_buffer__".endsWith ("." ++ "__release_buffer__")) = true := by decide +kernel
theorem ba_rel_drop : ("bytearray.__release_buffer__".dropRight ("__release_buffer__".length + 1)) = "bytearray" := by decide +kernel
section
variable {prog : Program} {w : World} {A : Around} {E : Value → Shared → Prop} {s : Shared}
theorem ba_ownRelease {S : Addr} {M : Model} {Q : Bool → Shared → Prop} (hT : s.TypeIs (.ref S) "bytearray") (h : Q false s) : wpAny M A (Builtin.Bytes.ownRelease (.ref S)) Q E s := by
  unfold Builtin.Bytes.ownRelease Builtin.Bytes.slotIsOwn
  refine wpAny_bind (wpAny_bind (wpAny_specialOf hT ba_look_release ?_))
  dsimp only
  rw [ba_rel_ends, ba_rel_drop]
  refine wpAny_ite_false rfl ?_
  refine wpAny_isInstance hT ba_sub ?_
  exact wpAny_pure h
theorem rIf_false {α : Type} {M : Model} {c : Bool} {a b : Sem α} {Q : α → Shared → Prop} (hc : c = false) (h : wpR M A b Q E s) : wpR M A (if c = true then a else b) Q E s := by
  subst hc
  exact h
theorem aIf_not {α : Type} {M : Model} {c : Prop} [Decidable c] {a b : Sem α} {Q : α → Shared → Prop} (hc : ¬ c) (h : wpAny M A b Q E s) : wpAny M A (if c then a else b) Q E s := by
  rw [if_neg hc]
  exact h
theorem aIf_yes {α : Type} {M : Model} {c : Prop} [Decidable c] {a b : Sem α} {Q : α → Shared → Prop} (hc : c) (h : wpAny M A a Q E s) : wpAny M A (if c then a else b) Q E s := by
  rw [if_pos hc]
  exact h
theorem exported_R {S : Addr} {M : Model} {Q : Bool → Shared → Prop} (h : Q false s) : wpR M A (Builtin.Bytes.exported (.ref S)) Q E s := by
  intro Γ p hΓ h1 h2
  unfold Builtin.Bytes.exported
  show Q (List.any ((Γ.code, p) :: Γ.below) _) s
  rw [show (List.any ((Γ.code, p) :: Γ.below) _) = false from ?_]
  · exact h
  rw [List.any_eq_false]
  intro x hx
  have hc : holds x.1 = false := by
    rcases List.mem_cons.mp hx with rfl | hx
    · exact h1
    · exact h2 x hx
  obtain ⟨c, q⟩ := x
  unfold holds at hc
  split
  case h_7 => exact Bool.false_ne_true
  case h_6 =>
    rename_i heq
    cases heq
    have hd : ∀ id : String, (["bytearray.__contains__", "bytearray.__mod__", "bytearray.__rmod__", "_struct.pack_into.held", "bytearray.find.held"] ++ Builtin.Bytes.decodersThatHold).contains id = false → Builtin.Bytes.decodersThatHold.contains id = false := by
      intro id h
      cases hq : Builtin.Bytes.decodersThatHold.contains id with
      | false => rfl
      | true =>
        have := List.contains_iff_mem.mp hq
        rw [List.contains_iff_mem.mpr (List.mem_append_right _ this)] at h
        cases h
    rw [hd _ hc, Bool.and_false]
    exact Bool.false_ne_true
  all_goals (rename_i heq; cases heq; exact absurd (show (["bytearray.__contains__", "bytearray.__mod__", "bytearray.__rmod__", "_struct.pack_into.held", "bytearray.find.held"] ++ Builtin.Bytes.decodersThatHold).contains _ = false from hc) (by decide +kernel))
theorem ba_init {S : Addr} {n : Int} {u : Tok} {Q : Fin → Shared → Prop} {E : Value → Shared → Prop} (h0 : 0 ≤ n) (hn : n ≤ 1000000) (hS : s.heap.get? S = some { cls := .type "bytearray", data := .bytearray #[] })
    (hQ : ∀ h' k, (∀ b o, b ≠ S → s.heap.get? b = some o → h'.get? b = some o) → h'.get? S = some { cls := .type "bytearray", data := .bytearray (Array.replicate n.toNat 0) } → h'.objs.size = s.heap.objs.size → Q (.done (.ret .none)) { s with heap := h', toks := k }) :
    wpR (model prog w) A (Builtin.«bytearray.__init__» ⟨[.ref S, .int n u], []⟩) Q E s := by
  have hT : s.TypeIs (.ref S) "bytearray" := ⟨_, hS, rfl⟩
  unfold Builtin.«bytearray.__init__»
  refine wpR_bindA (ba_ownRelease hT ?_)
  refine rIf_false rfl ?_
  refine wpR_bindA (wpAny_of_eq (ba_bind _) ?_)
  refine wpR_bindA (wpAny_of_eq (a := ()) rfl ?_)
  refine wpR_bindA (wpAny_of_eq (a := ()) rfl ?_)
  refine wpR_bind (Q := _) ?_
  unfold orM
  refine wpR_bind (exported_R ?_)
  show wpR _ _ (Builtin.Bytes.exportsOf (.ref S) >>= fun n => pure (decide (n > 0))) _ _ _
  refine wpR_of_any ?_
  unfold Builtin.Bytes.exportsOf
  refine wpAny_bind (wpAny_bind (wpAny_load hS ?_))
  refine wpAny_pure (wpAny_pure ?_)
  refine rIf_false rfl ?_
  refine wpR_of_any ?_
  refine wpAny_bind ?_
  show wpAny _ _ (updateBytearray S fun _ => #[]) _ _ _
  unfold updateBytearray
  refine wpAny_bind (wpAny_load hS ?_)
  refine wpAny_bind (wpAny_update hS ?_)
  have hS₁ : (s.heap.update S (Obj.mapBytearray fun _ => #[])).get? S = some { cls := .type "bytearray", data := .bytearray #[] } := Heap.get?_update_self _ hS rfl
  refine wpAny_lookBehind hS₁ rfl ?_
  refine wpAny_bind (wpAny_of_eq (a := (none : Option Str)) rfl ?_)
  refine wpAny_ite_false rfl ?_
  refine wpAny_bind (wpAny_of_eq (a := ()) rfl ?_)
  refine wpAny_bind (wpAny_specialOf (T := "int") (typeIs_int _ _ _) ba_int_index ?_)
  refine wpAny_ite_true rfl ?_
  refine wpAny_bind (wpAny_attempt (wpAny_of_eq (rfl : asIndex (.int n u) = pure n) ?_))
  refine aIf_not (by unfold Builtin.Bytes.fitsIndex; simp only [Bool.not_eq_true, Bool.not_eq_false', Bool.and_eq_true, decide_eq_true_eq]; omega) ?_
  refine aIf_not (by omega) ?_
  refine aIf_not (by rw [beq_iff_eq]; omega) ?_
  refine aIf_not (by unfold Builtin.Bytes.tooLong; rw [decide_eq_true_eq, sizeLine_eq]; omega) ?_
  refine wpAny_bind (wpAny_rule ?_)
  have keep₁ : ∀ b o, b ≠ S → s.heap.get? b = some o → (s.heap.update S (Obj.mapBytearray fun _ => #[])).get? b = some o := fun b o hb e => (Heap.get?_update_other _ _ (Ne.symm hb)).trans e
  by_cases hp : n > 0
  · refine aIf_yes hp ?_
    refine wpAny_bind ?_
    show wpAny _ _ (updateBytearray S fun _ => Array.replicate n.toNat 0) _ _ _
    unfold updateBytearray
    refine wpAny_bind (wpAny_load hS₁ ?_)
    refine wpAny_bind (wpAny_update hS₁ ?_)
    have hS₂ : ((s.heap.update S (Obj.mapBytearray fun _ => #[])).update S (Obj.mapBytearray fun _ => Array.replicate n.toNat 0)).get? S = some { cls := .type "bytearray", data := .bytearray (Array.replicate n.toNat 0) } := Heap.get?_update_self _ hS₁ rfl
    refine wpAny_lookBehind hS₂ ?_ ?_
    · show (if (Array.replicate n.toNat (0 : UInt8)).size > sizeLine then some "bytearray:memory" else none) = none
      rw [if_neg]
      rw [Array.size_replicate, sizeLine_eq]
      omega
    · refine wpAny_pure (hQ _ _ (fun b o hb e => (Heap.get?_update_other _ _ (Ne.symm hb)).trans (keep₁ b o hb e)) hS₂ ?_)
      simp only [Heap.size_after_update]
  · refine aIf_not hp ?_
    have hz : n.toNat = 0 := by omega
    refine wpAny_pure (hQ _ _ keep₁ ?_ ?_)
    · rw [hz]; exact hS₁
    · simp only [Heap.size_after_update]
end
end Mine
end
theorem Mine.off_BaCall : True := by
  w_top off
  trivial
section
open PySem PySem.W PyProof.Rows PySem.Calls
set_option Elab.async false
set_option maxRecDepth 100000
set_option maxHeartbeats 8000000
namespace Mine
section
variable {prog : Program} {w : World} {A : Around} {E : Value → Shared → Prop} {s : Shared}
theorem holds_builtin {id : String} {args : Args} (h : (["bytearray.__contains__", "bytearray.__mod__", "bytearray.__rmod__", "_struct.pack_into.held", "bytearray.find.held"] ++ Builtin.Bytes.decodersThatHold).contains id = false) : holds (.builtin id args) = false := h
theorem ba_call_R {n : Int} {u : Tok} {Q : Value → Shared → Prop} (h0 : 0 ≤ n) (hn : n ≤ 1000000)
    (hQ : ∀ h' k, (∀ b o, s.heap.get? b = some o → h'.get? b = some o) → h'.get? s.heap.objs.size = some { cls := .type "bytearray", data := .bytearray (Array.replicate n.toNat 0) } → h'.objs.size = s.heap.objs.size + 1 → Q (.ref s.heap.objs.size) { s with heap := h', toks := k }) :
    wpR (model prog w) A (call (.type "bytearray") [.int n u]) Q E s := by
  obtain ⟨c, tl, hmro⟩ := ba_called.mro
  have hmade := ba_called.made
  have hsub := ba_called.sub
  have h1 := ba_called.notType
  have h2 := ba_called.canCreate
  refine wpR_call (codeR_of_tree rfl (wpR_of_any ?_))
  show wpAny _ _ (callAny (.type "bytearray") _) _ _ _
  refine wpAny_pure ⟨Code.quiet_builtin _ (by decide +kernel), codeR_builtin (holds_builtin (by decide +kernel)) F.entry_type_call ?_⟩
  rw [Around.under_plain (weight_type_call_type "bytearray" _ []) rfl]
  unfold Builtin.«type.__call__»
  dsimp only
  refine rIf_false h1 ?_
  refine rIf_false h2 ?_
  refine wpR_bindA (wpAny_of_eq (ba_typeCall _) ?_)
  refine wpR_bindA (wpAny_of_eq hmro ?_)
  refine rIf_false rfl ?_
  refine wpR_bindA (wpAny_of_eq hmade ?_)
  refine wpR_bindA (wpAny_pure ?_)
  refine wpR_bindA (wpAny_holding (wpAny_call (ba_code_new _ ?_)))
  have hS : (s.heap.push { cls := .type "bytearray", data := .bytearray #[] }).get? s.heap.objs.size = some { cls := .type "bytearray", data := .bytearray #[] } := Heap.get?_push_size _ rfl
  have hT : ({ s with heap := s.heap.push { cls := .type "bytearray", data := .bytearray #[] } } : Shared).TypeIs (.ref s.heap.objs.size) "bytearray" := ⟨_, hS, rfl⟩
  refine wpR_bindA (wpAny_isInstance hT ba_sub ?_)
  refine rIf_false rfl ?_
  refine wpR_bind (wpR_holding ?_)
  unfold callSpecial?
  refine wpR_bindA (wpAny_specialOf hT ba_slot_init.lookup ?_)
  refine wpR_holding ?_
  refine wpR_bindA (wpAny_of_eq (ba_slot_init.bind _) ?_)
  refine wpR_bind (wpR_call (codeR_of_tree rfl ?_))
  show wpR _ A.in1.in1 (do checkBuiltinCall "bytearray.__init__" ⟨[.ref s.heap.objs.size, .int n u], []⟩; again (.builtin "bytearray.__init__" ⟨[.ref s.heap.objs.size, .int n u], []⟩)) _ _ _
  refine wpR_bindA (ba_slot_init.check _ _ _ _ _ _ _ _ hT (ba_args _ _) ?_)
  refine wpR_pure ⟨plainId_quiet ba_plain_init _, codeR_builtin (holds_builtin (by decide +kernel)) ba_entry_init ?_⟩
  refine ba_init h0 hn hS fun h' k hk hS' hz => ?_
  refine wpR_pure ?_
  refine rIf_false (by decide) ?_
  refine wpR_pure ?_
  refine hQ h' k (fun b o e => hk b o (Nat.ne_of_lt (Heap.lt_size e)) (Heap.get?_push_of_some _ e)) hS' ?_
  rw [hz]
  exact Heap.size_push _ _
end
end Mine
end
theorem Mine.off_RStep : True := by
  w_top off
  trivial
section
open PySem PySem.W PyProof.Rows PySem.Calls
set_option Elab.async false
set_option maxRecDepth 100000
set_option maxHeartbeats 8000000
namespace Mine
section
variable {prog : Program} {w : World} {A A₀ : Around} {s : Shared} {K : Frag} {L : Addr} {h₀ base : Heap} {m mg mb : Str → Option Value} {news : List (Addr × Obj)} {p : Program} {loose : List Str} {mean : ExcName → Option Value}
/-- entering a def of the text, from a clean caller -/
theorem codeR_def {env : Env} {outer : List Env} {R : Result → Shared → Prop} {name qual : Str} {params : Arguments} {body : List Stmt} {scope : Scope} {dV kV doc pm cdv ct oc : Value} {an od : Option Addr} {osl : Array (Option Value)} {f : Addr} {args : Args} {binds : List (Str × Value)}
    (B : Below A₀ base outer h₀) (F : Fr h₀ L s.heap m) (X₀ : K.In h₀) (N : News h₀ L s.heap news) (T : Top p loose mean mg mb h₀) (hA : A.frames = some (env :: outer)) (hf : env.frame = some L) (hke : env.scope.kind = .function)
    (ho : K.lookup f = some ⟨oc, od, .func (fnOf name qual params body scope dV kV doc pm an cdv ct), osl⟩) (hcd : codeIn K cdv qual = true) (hroom : A.depth < recursionLimit)
    (hbind : BindsTo s (fnOf name qual params body scope dV kV doc pm an cdv ct) args binds) (hloc : ∀ y ∈ binds, scope.names.lookup y.1 = some .local)
    (h : ∀ g L' h₁, Fr h₀ L g m → Fr g L' h₁ (fun y => binds.reverse.lookup y) → News g L' h₁ news → Below A base (env :: outer) g → K.In g → Top p loose mean mg mb g → (∀ p ∈ news, p.1 < L') →
      wpR (model prog w) (A.deeper (envOf qual scope L' f cdv)) (execs body (envOf qual scope L' f cdv))
        (fun fl s' => LeaveK h₀ L m g R (match fl with | .ret v => v | _ => .none) s')
        (fun e s' => wpR (model prog w) (A.deeper (envOf qual scope L' f cdv)) (leaving (envOf qual scope L' f cdv) e) (fun _ s'' => R (.error e) s'') (fun e' s'' => R (.error e') s'') s')
        { s with heap := h₁, toks := s.toks + binds.length })
    (hco : scope.isCoroutine = false) (hgen : scope.isGenerator = false) (hk : scope.kind = .function)
    (hcell : ∀ x ∈ scope.names, x.2 ≠ .cell) : codeR (model prog w) A (.call (.ref f) args) R s := by
  obtain ⟨FG, BG, st, lv⟩ := groundX (R := R) B F N hA hf hke
  refine codeR_call_def (fd := fnOf name qual params body scope dV kV doc pm an cdv ct) (body := body) (binds := binds) hroom ((X₀.keeps F.keep) _ _ ho) rfl (T.nolimit.keeps F.keep) (codeRec_of (X₀.keeps F.keep) hcd) rfl hbind hcell hloc (fun h₁ hns hk₁ => ?_) hco hgen hk
  exact wpR_mono (h _ s.heap.objs.size h₁ FG ⟨hns, fun b o e => hk₁ b o (of_hideAll _ e), Nat.le_of_eq (hideAll_size _ _)⟩
    (fun p hp => ⟨hk₁ _ _ (N p hp).1, Nat.ne_of_lt (Heap.lt_size (N p hp).1), hideAll_none _ (List.mem_map_of_mem hp)⟩) BG (X₀.keeps st) (T.keeps st) (fun p hp => Heap.lt_size (N p hp).1)) (fun fl s' hl => lv _ _ hl) fun _ _ y => y
end

section
variable {M : Model} {A : Around} {E : Value → Shared → Prop} {s : Shared} {env : Env}
/-- a statement that the library walks, then the rest -/
theorem R_stmt {st : Stmt} {rest : List Stmt} {Q : Flow → Shared → Prop}
    (h : wpAny M A (exec st env) (fun f s' => match f with | .next => wpR M A (execs rest env) Q E s' | f => Q f s') E s) :
    wpR M A (execs (st :: rest) env) Q E s := fun Γ p hΓ h1 h2 => by
  rw [execs_cons, Sem.wp_bind']
  refine Sem.wp_mono M Γ _ (fun f p' s' h' => ?_) (fun _ _ _ h' => h') _ _ (h Γ p hΓ)
  cases f <;> first | exact h' Γ p' hΓ h1 h2 | exact h'
/-- a statement that this layer walks, then the rest -/
theorem R_stmtR {st : Stmt} {rest : List Stmt} {Q : Flow → Shared → Prop}
    (h : wpR M A (exec st env) (fun f s' => match f with | .next => wpR M A (execs rest env) Q E s' | f => Q f s') E s) :
    wpR M A (execs (st :: rest) env) Q E s := fun Γ p hΓ h1 h2 => by
  rw [execs_cons, Sem.wp_bind']
  refine Sem.wp_mono M Γ _ (fun f p' s' h' => ?_) (fun _ _ _ h' => h') _ _ (h Γ p hΓ h1 h2)
  cases f <;> first | exact h' Γ p' hΓ h1 h2 | exact h'
theorem R_assign {x : Str} {pos' : Pos} {value : Expr} {pos : Pos} {Q : Flow → Shared → Prop}
    (h : wpR M A (eval value env) (fun v s₁ => wpAny M A (storeName env x v) (fun _ => Q .next) E s₁) E s)
    (hs : swapsWith value (some (.Name x pos')) pos.line env = pure false := by rfl) :
    wpR M A (exec (.Assign [.Name x pos'] value pos) env) Q E s := fun Γ p hΓ h1 h2 => by
  simp only [exec_Assign_Name env x pos' value pos hs, Sem.wp_bind', Sem.wp_cmd_standAt, Sem.wp_bindName, Sem.wp_pure']
  exact Sem.wp_mono M Γ _ (fun v _ s₁ h₁ => h₁ Γ _ hΓ) (fun _ _ _ h' => h') _ _ (h Γ _ hΓ h1 h2)
theorem R_if {test : Expr} {body orelse : List Stmt} {pos : Pos} {Q : Flow → Shared → Prop}
    (h : wpR M A (isTrue test env (eval test env))
      (fun b s₂ => if b then wpR M A (execs body env) Q E s₂ else wpR M A (execs orelse env) Q E s₂) E s) :
    wpR M A (exec (.If test body orelse pos) env) Q E s := fun Γ p hΓ h1 h2 => by
  simp only [exec_If, Sem.wp_bind', Sem.wp_cmd_standAt]
  refine Sem.wp_mono M Γ _ (fun b p₂ s₂ h₂ => ?_) (fun _ _ _ h' => h') _ _ (h Γ _ hΓ h1 h2)
  cases b <;> exact h₂ Γ p₂ hΓ h1 h2
theorem R_return {e : Expr} {pos : Pos} {Q : Flow → Shared → Prop} (h : wpR M A (eval e env) (fun v => Q (.ret v)) E s) :
    wpR M A (exec (.Return (some e) pos) env) Q E s := fun Γ p hΓ h1 h2 => by
  simp only [exec_Return_some, Sem.wp_bind', Sem.wp_cmd_standAt, Sem.wp_pure']; exact h Γ _ hΓ h1 h2
theorem R_list {elts : List Expr} {pos : Pos} {Q : Value → Shared → Prop}
    (h : wpR M A (spliced (backTo pos (starEach elts env))) (fun vs s₁ => wpAny M A (newList vs) Q E s₁) E s) : wpR M A (eval (.List elts pos) env) Q E s := by
  show wpR M A (do standAt pos; newList (← spliced (backTo pos (starEach elts env)))) Q E s
  exact wpR_bind (wpR_standAt (wpR_bind (wpR_mono h (fun _ _ x => wpR_of_any x) fun _ _ x => x)))
theorem R_spliced_nil {Q : List Value → Shared → Prop} (h : Q [] s) : wpR M A (spliced []) Q E s := wpR_pure h
theorem R_spliced_cons {x : Sem Value} {rest : List (Bool × Sem Value)} {Q : List Value → Shared → Prop}
    (h : wpR M A x (fun v s₁ => wpR M A (spliced rest) (fun vs s₂ => Q (v :: vs) s₂) E s₁) E s) :
    wpR M A (spliced ((false, x) :: rest)) Q E s := by
  show wpR M A (do let v ← x; let here ← (pure [v] : Sem (List Value)); return here ++ (← holding here (spliced rest))) Q E s
  refine wpR_bind (wpR_mono h (fun v s₁ h₁ => ?_) fun _ _ x => x)
  exact wpR_bind (wpR_pure (wpR_bind (wpR_holding (wpR_mono h₁ (fun vs s₂ h₂ => wpR_pure h₂) fun _ _ x => x))))
theorem R_args_nil {pos : Pos} {Q : List Value → Shared → Prop} (h : Q [] s) : wpR M A (spliced (backTo pos (starEach [] env))) Q E s := R_spliced_nil h
theorem R_args_cons {e : Expr} {rest : List Expr} {pos : Pos} {Q : List Value → Shared → Prop}
    (h : wpR M A (eval e env) (fun v s₁ => wpR M A (spliced (backTo pos (starEach rest env))) (fun vs s₂ => Q (v :: vs) s₂) E s₁) E s)
    (he : starEach (e :: rest) env = (false, eval e env) :: starEach rest env := by rfl) : wpR M A (spliced (backTo pos (starEach (e :: rest) env))) Q E s := by
  rw [he]; exact R_spliced_cons h
theorem R_binop {l r : Expr} {op : Operator} {pos : Pos} {Q : Value → Shared → Prop}
    (h : wpR M A (eval l env) (fun a s₁ => wpAny M A (eval r env) (fun b s₂ => wpAny M A (binaryOp op a b) Q E s₂) E s₁) E s) :
    wpR M A (eval (.BinOp l op r pos) env) Q E s := fun Γ p hΓ h1 h2 => by
  simp only [eval_BinOp, Sem.wp_bind', Sem.wp_holding, Sem.wp_cmd_standAt, Sem.wp_operate]
  exact Sem.wp_mono M Γ _ (fun a p₁ s₁ h₁ => Sem.wp_mono M Γ _ (fun b _ s₂ h₂ => h₂ Γ _ hΓ) (fun _ _ _ h' => h') _ _ (h₁ Γ p₁ hΓ))
    (fun _ _ _ h' => h') _ _ (h Γ p hΓ h1 h2)
end
end Mine
end
theorem Mine.off_RCall : True := by
  w_top off
  trivial
section
open PySem PySem.W PyProof.Rows PySem.Calls
set_option Elab.async false
set_option maxRecDepth 100000
set_option maxHeartbeats 8000000
namespace Mine
section
variable {M : Model} {A : Around} {E : Value → Shared → Prop} {s : Shared} {env : Env}
theorem R_evalArgs {f : Value} {x : Sem Value} {rest : List (Bool × Sem Value)} {Q : Args → Shared → Prop}
    (h : wpR M A (spliced ((false, x) :: rest)) (fun vs s' => Q ⟨vs, []⟩ s') E s) : wpR M A (evalArgs f true ((false, x) :: rest) []) Q E s := by
  unfold evalArgs
  show wpR M A (spliced ((false, x) :: rest) >>= _) Q E s
  refine wpR_bind (wpR_mono h (fun vs s' h' => ?_) fun _ _ x => x)
  refine wpR_holding ?_
  exact wpR_bind (wpR_pure (wpR_bind (wpR_pure (wpR_pure h'))))
theorem R_callWith_type {pos : Pos} {T : String} {args : List (Bool × Sem Value)} {Q : Value → Shared → Prop} (hplain : args.any (·.1) = false)
    (h : wpR M A (evalArgs (.type T) true args []) (fun a s₁ => wpR M A (call (.type T) a.pos a.kw) Q E s₁) E s) :
    wpR M A (callWith pos (.type T) [] args []) Q E s := by
  unfold callWith
  refine wpR_bind (wpR_holding (wpR_mono h (fun a s₁ h₁ => wpR_bind (wpR_standAt ?_)) fun _ _ x => x))
  simp only [hplain, List.any_nil, Bool.or_false]
  refine wpR_bind (wpR_pure ?_)
  exact wpR_bind (wpR_mono h₁ (fun r s₂ hr => wpR_bind (wpR_holding (wpR_of_any (wpAny_point (wpR_pure hr))))) fun _ _ x => x)
theorem R_Call {func : Expr} {args : List Expr} {pos : Pos} {Q : Value → Shared → Prop}
    (h : wpAny M A (eval func env) (fun f s₁ => wpR M A (callWith pos f [] (backTo pos (starEach args env)) []) Q E s₁) E s)
    (he : eval (.Call func args [] pos) env = (do callWith pos (← eval func env) [] (backTo pos (starEach args env)) (backToKw pos (keywordEach [] env))) := by rfl) :
    wpR M A (eval (.Call func args [] pos) env) Q E s := by
  rw [he]; exact wpR_bindA h
theorem R_args_type {pos : Pos} {T : String} {e : Expr} {rest : List Expr} {Q : Value → Shared → Prop}
    (h : wpR M A (spliced (backTo pos (starEach (e :: rest) env))) (fun vs s₁ => wpR M A (call (.type T) vs) Q E s₁) E s)
    (he : starEach (e :: rest) env = (false, eval e env) :: starEach rest env := by rfl)
    (hplain : (backTo pos (starEach rest env)).any (·.1) = false := by rfl) :
    wpR M A (callWith pos (.type T) [] (backTo pos (starEach (e :: rest) env)) []) Q E s := by
  rw [he] at h ⊢
  exact R_callWith_type (by show (false || (backTo pos (starEach rest env)).any (·.1)) = false; rw [hplain]; rfl) (R_evalArgs h)
end
end Mine
namespace Mine
def IsFn (h : Heap) (f : Addr) : Prop := ∃ o fd, h.get? f = some o ∧ o.data = .func fd
theorem isFn_K {K : Frag} {h₀ h : Heap} {L f : Addr} {m : Str → Option Value} {oc : Value} {od : Option Addr} {fd : FuncData} {osl : Array (Option Value)} (X : K.In h₀) (F : Fr h₀ L h m)
    (ho : K.lookup f = some ⟨oc, od, .func fd, osl⟩) : IsFn h f := ⟨_, fd, (X.keeps F.keep) _ _ ho, rfl⟩
section
variable {M : Model} {A : Around} {E : Value → Shared → Prop} {s : Shared} {env : Env}
theorem R_callWith_fn {pos : Pos} {a : Addr} {args : List (Bool × Sem Value)} {Q : Value → Shared → Prop} (hplain : args.any (·.1) = false)
    (h : wpR M A (evalArgs (.ref a) true args []) (fun x s₁ => IsFn s₁.heap a ∧ wpR M A (call (.ref a) x.pos x.kw) Q E s₁) E s) :
    wpR M A (callWith pos (.ref a) [] args []) Q E s := by
  unfold callWith
  refine wpR_bind (wpR_holding (wpR_mono h (fun x s₁ h₁ => wpR_bind (wpR_standAt ?_)) fun _ _ x => x))
  have tail : ∀ {t : Sem Value}, wpR M A t Q E s₁ → wpR M A (t >>= fun r => holding [r] point >>= fun _ => pure r) Q E s₁ :=
    fun ht => wpR_bind (wpR_mono ht (fun r s₂ hr => wpR_bind (wpR_holding (wpR_of_any (wpAny_point (wpR_pure hr))))) fun _ _ x => x)
  obtain ⟨⟨o, fd, ho, hd⟩, h₂⟩ := h₁
  simp only [hplain, List.any_nil, Bool.or_false]
  refine wpR_bind (m := keeperOf (.ref a)) (wpR_of_any ?_)
  unfold keeperOf
  refine wpAny_bind (wpAny_load ho ?_)
  rw [hd]
  refine wpAny_pure ?_
  by_cases hl : args.length + 2 * ([] : List (Option Str × Sem Value)).length > 30
  · have := tail h₂
    simpa only [if_pos hl, List.nil_append] using this
  · have := tail (t := callMarked plainCall (.ref a) x.pos x.kw) (by unfold callMarked; exact wpR_keep h₂)
    simpa only [if_neg hl, List.nil_append] using this
theorem R_args_fn {pos : Pos} {f : Addr} {e : Expr} {rest : List Expr} {Q : Value → Shared → Prop}
    (h : wpR M A (spliced (backTo pos (starEach (e :: rest) env))) (fun vs s₁ => IsFn s₁.heap f ∧ wpR M A (call (.ref f) vs) Q E s₁) E s)
    (he : starEach (e :: rest) env = (false, eval e env) :: starEach rest env := by rfl)
    (hplain : (backTo pos (starEach rest env)).any (·.1) = false := by rfl) :
    wpR M A (callWith pos (.ref f) [] (backTo pos (starEach (e :: rest) env)) []) Q E s := by
  rw [he] at h ⊢
  exact R_callWith_fn (by show (false || (backTo pos (starEach rest env)).any (·.1)) = false; rw [hplain]; rfl) (R_evalArgs h)
end
end Mine
end
theorem Mine.off_BaK : True := by
  w_top off
  trivial
section
open PySem PySem.W PyProof.Rows PySem.Calls
set_option Elab.async false
set_option maxRecDepth 100000
set_option maxHeartbeats 8000000
namespace Mine
abbrev baObj (b : Array UInt8) : Obj := { cls := .type "bytearray", data := .bytearray b }
section
variable {prog : Program} {w : World} {A : Around} {E : Value → Shared → Prop} {s : Shared} {h₀ : Heap} {L : Addr} {m : Str → Option Value} {news : List (Addr × Obj)}
theorem ba_new_K {n : Int} {u : Tok} {Q : Value → Shared → Prop} (F : Fr h₀ L s.heap m) (N : News h₀ L s.heap news) (h0 : 0 ≤ n) (hn : n ≤ 1000000)
    (h : ∀ D h' k, Fr h₀ L h' m → News h₀ L h' ((D, baObj (Array.replicate n.toNat 0)) :: news) → (∀ p ∈ news, p.1 < D) → Q (.ref D) { s with heap := h', toks := k }) :
    wpR (model prog w) A (call (.type "bytearray") [.int n u]) Q E s := by
  refine ba_call_R h0 hn fun h' k hk hD hz => h _ h' k (F.keeps hk) (fun p hp => ?_) fun p hp => Heap.lt_size (N p hp).1
  rcases List.mem_cons.mp hp with rfl | hp
  · refine ⟨hD, ?_, ?_⟩
    · obtain ⟨oL, _, _, hL, _⟩ := F.ns
      exact Nat.ne_of_gt (Heap.lt_size hL)
    · cases q : h₀.get? s.heap.objs.size with
      | none => rfl
      | some o => exact absurd (Heap.lt_size (F.keep _ _ q)) (Nat.lt_irrefl _)
  · exact ⟨hk _ _ (N p hp).1, (N p hp).2⟩
end
/-- a contract: a call of a def of the text, from a clean caller -/
abbrev RC (d u : Nat) (prog : Program) (w : World) (K : Frag) (p : Program) (loose : List Str) (mean : ExcName → Option Value) (mg mb : Str → Option Value) (f : Addr) (vs : List Value) (R : Tok → Value) : Prop :=
  ∀ (news : List (Addr × Obj)) (dp un : Nat) (gd : Option (List Code)) (cn : Str) (cs : Scope) (a : Addr) (ccd : Value) (cl : List (Str × Addr)) (outer : List Env) (A₀ : Around) (base h₀ : Heap) (L : Addr) (m : Str → Option Value) (s : Shared) (Q E : Value → Shared → Prop),
    Below A₀ base outer h₀ → Fr h₀ L s.heap m → K.In h₀ → News h₀ L s.heap news → Top p loose mean mg mb h₀ → cs.kind = .function →
    dp + d < recursionLimit → un + u < cLine → (∀ (t : Tok) (h' : Heap) (tk' : Nat), Fr h₀ L h' m → News h₀ L h' news → Q (R t) { s with heap := h', toks := tk' }) →
      wpR (model prog w) (ktrTop dp un gd cn cs L a ccd cl outer) (call (.ref f) vs) Q E s
end Mine
end
theorem Mine.off_Loop : True := by
  w_top off
  trivial
section
open PySem PySem.W PyProof.Rows PySem.Calls
set_option Elab.async false
set_option maxRecDepth 100000
set_option maxHeartbeats 8000000
namespace Mine
section
variable {prog : Program} {w : World} {A : Around} {E : Value → Shared → Prop} {s : Shared} {env : Env} {h₀ : Heap} {x : Str} {body : List Stmt} {Q : Flow → Shared → Prop}
/-- a loop over a range: the names x (the loop's own) and z may turn, the ledger by J -/
theorem range_loop {r : Addr} {a₀ b₀ c : Int} {t₀ u₀ v₀ : Tok} {n : Nat} {m₀ : Str → Option Value} {news : List (Addr × Obj)} (z : Str) (J : Nat → List (Addr × Obj) → Prop)
    (hh : A.handled = none) (hr : IsRange s.heap r a₀ b₀ c t₀ u₀ v₀) (hsmall : Builtin.Range.small a₀ b₀ c = true) (hn : Builtin.Range.rangeSize a₀ b₀ c = (n : Int)) (F : Fr h₀ env.locals s.heap m₀) (N : News h₀ env.locals s.heap news)
    (hj : J 0 news)
    (turn : ∀ (i : Nat) (t : Tok) (u : Str → Option Value) (news₁ : List (Addr × Obj)) (I : Addr) (oI : Obj) (h : Heap) (tk : Nat), i < n → (∀ p ∈ news₁, p.1 ≠ I) → J i news₁ →
      Fr h₀ env.locals h (fun y => if y = x then some (.int (a₀ + (i : Int) * c) t) else if y = z then u y else m₀ y) → News h₀ env.locals h ((I, oI) :: news₁) →
      wpAny (model prog w) A (execs body env) (UnrPost h₀ env.locals { s with heap := h, toks := tk } I oI (fun m' news' => (∀ y, y ≠ x → y ≠ z → m' y = m₀ y) ∧ J (i + 1) news') Q) E { s with heap := h, toks := tk })
    (done : ∀ (u : Str → Option Value) (news₁ : List (Addr × Obj)) (h : Heap) (tk : Nat), J n news₁ → Fr h₀ env.locals h (fun y => if y = x then u y else if y = z then u y else m₀ y) → News h₀ env.locals h news₁ → Q .next { s with heap := h, toks := tk }) :
    wpAny (model prog w) A (pyIter (.ref r)) (fun it s₂ => LoopAtV prog w A h₀ env x body Q E it s₂) E s := by
  refine krs_iter hh hr hsmall hn F N fun I hI => ?_
  have key : ∀ (k i : Nat) (m₁ : Str → Option Value) (news₁ : List (Addr × Obj)), i + k = n → (∀ p ∈ news₁, p.1 ≠ I) → (∀ y, y ≠ x → y ≠ z → m₁ y = m₀ y) → J i news₁ →
      KrsRest prog w A E h₀ env x body Q s I a₀ c n k i m₁ news₁ := by
    intro k
    induction k with
    | zero =>
      intro i m₁ news₁ hik hI₁ hm hJ h tk F' N'
      have hin : i = n := by omega
      subst hin
      refine done m₁ news₁ h tk hJ ?_ N'
      have e : (fun y => if y = x then m₁ y else if y = z then m₁ y else m₀ y) = m₁ := by
        funext y
        by_cases h1 : y = x
        · rw [if_pos h1]
        · rw [if_neg h1]
          by_cases h2 : y = z
          · rw [if_pos h2]
          · rw [if_neg h2]; exact (hm y h1 h2).symm
      rw [e]; exact F'
    | succ k ih =>
      intro i m₁ news₁ hik hI₁ hm hJ t h tk F' N'
      have e : (fun y => if y = x then some (Value.int (a₀ + (i : Int) * c) t) else m₁ y) = fun y => if y = x then some (Value.int (a₀ + (i : Int) * c) t) else if y = z then m₁ y else m₀ y := by
        funext y
        by_cases h1 : y = x
        · rw [if_pos h1, if_pos h1]
        · rw [if_neg h1, if_neg h1]
          by_cases h2 : y = z
          · rw [if_pos h2]
          · rw [if_neg h2]; exact hm y h1 h2
      rw [e] at F'
      refine wpAny_mono (turn i t m₁ news₁ I _ h tk (by omega) hI₁ hJ F' N') (fun f s₂ hp => ?_) fun _ _ h => h
      have fin : ∀ {it : Obj}, UnrEnd h₀ env.locals { s with heap := h, toks := tk } I it (fun m' news' => (∀ y, y ≠ x → y ≠ z → m' y = m₀ y) ∧ J (i + 1) news') s₂ →
          UnrEnd h₀ env.locals { s with heap := h, toks := tk } I it (KrsRest prog w A E h₀ env x body Q s I a₀ c n k (i + 1)) s₂ := by
        rintro it ⟨h', tk', m', news', e, F₂, N₂, off, hm', hJ'⟩
        exact ⟨h', tk', m', news', e, F₂, N₂, off, ih (i + 1) m' news' (by omega) off hm' hJ'⟩
      cases f with
      | ret v => exact hp
      | brk => exact hp
      | next => exact fin hp
      | cont => exact fin hp
  exact key n 0 m₀ news (by omega) (fun p hp => Nat.ne_of_lt (hI p hp)) (fun _ _ _ => rfl) hj
end
end Mine
namespace Mine
/-- a halt for the walk -/
def Hold (P : Prop) : Prop := P
theorem Hold.mk {P : Prop} (h : P) : Hold P := h
theorem For_hold {prog : Program} {w : World} {A : Around} {s : Shared} {env : Env} {E : Value → Shared → Prop} {Q : Flow → Shared → Prop} {x : Str} {px pos : Pos} {iter : Expr} {body : List Stmt} (h₀ : Heap) (hx : env.kindOf x = some .local)
    (hp : (env.scope.kind == .class || (env.scope.kind == .module && env.locals != env.globals)) = false)
    (h : wpAny (model prog w) A (eval iter env) (fun xv s₁ => Hold (wpAny (model prog w) A (pyIter xv) (fun it s₂ => LoopAtV prog w A h₀ env x body Q E it s₂) E s₁)) E s)
    (hs : ∀ x, foldedSetIterable iter env x = pure x)
    (hE : PassesOwn (model prog w) A env E) :
    wpAny (model prog w) A (exec (.For (.Name x px) iter body [] pos) env) Q E s := For_invV h₀ hx hp h hs hE
theorem small_of {a b c : Int} (ha : -(2 ^ 40) ≤ a) (ha' : a < 2 ^ 40) (hb : -(2 ^ 40) ≤ b) (hb' : b < 2 ^ 40) (hc : 1 ≤ c) (hc' : c < 2 ^ 40) : Builtin.Range.small a b c = true := by
  have hn : 0 ≤ Builtin.Range.rangeSize a b c ∧ Builtin.Range.rangeSize a b c ≤ 2 ^ 42 := by
    unfold Builtin.Range.rangeSize
    rw [if_pos (by omega)]
    split
    · have h1 : 0 ≤ (b - a - 1) / c := Int.ediv_nonneg (by omega) (by omega)
      have h2 : (b - a - 1) / c ≤ b - a - 1 := Int.ediv_le_self _ (by omega)
      omega
    · omega
  unfold Builtin.Range.small
  simp only [Builtin.Range.rangeFitsLong, Bool.and_eq_true, Bool.or_eq_true, decide_eq_true_eq, beq_iff_eq, show c > 0 by omega, if_true]
  omega
theorem rangeSize_block {k : Int} {q : Nat} (hk : 0 < k) : Builtin.Range.rangeSize 0 ((q : Int) * k) k = (q : Int) := by
  unfold Builtin.Range.rangeSize
  rw [if_pos (by omega)]
  by_cases hq : q = 0
  · subst hq; simp
  · have hqk : (0 : Int) < (q : Int) * k := Int.mul_pos (by omega) hk
    rw [if_pos hqk]
    have e : ((q : Int) * k - 0 - 1) = (k - 1) + k * ((q : Int) - 1) := by
      rw [Int.mul_sub, Int.mul_comm k]; omega
    rw [e, Int.add_mul_ediv_left _ _ (by omega), Int.ediv_eq_zero_of_lt (by omega) (by omega)]
    omega
end Mine
namespace Mine
theorem execs_hold {M : Model} {A : Around} {E : Value → Shared → Prop} {s : Shared} {env : Env} {st : Stmt} {rest : List Stmt} {Q : Flow → Shared → Prop}
    (h : wpAny M A (exec st env) (fun f s' => match f with | .next => Hold (wpAny M A (execs rest env) Q E s') | f => Q f s') E s) :
    wpAny M A (execs (st :: rest) env) Q E s := wpAny_execs_cons (wpAny_mono h (fun f _ h => by cases f <;> exact h) fun _ _ h => h)
end Mine
end
theorem Mine.off_BaSet : True := by
  w_top off
  trivial
section
open PySem PySem.W PyProof.Rows PySem.Calls
set_option Elab.async false
set_option maxRecDepth 100000
set_option maxHeartbeats 8000000
namespace Mine
theorem ba_slot_setitem : Slot "bytearray" "__setitem__" "bytearray.__setitem__" :=
  .of (owner := "bytearray") (n := "__setitem__") (by rw [typeLookup_type, builtinLookup_eq_fast]; kernel_rfl) (by decide +kernel) (by decide +kernel) (by decide +kernel)
    (by first | exact .inl (by decide +kernel) | exact .inr (by decide +kernel)) (by rw [isSubtype_type]; kernel_rfl)
theorem ba_entry_setitem : entryFor table "bytearray.__setitem__" = some Builtin.«bytearray.__setitem__» := by first | exact entryFor_of_fast (by kernel_rfl) | exact entryFor_of_tree (by kernel_rfl)
theorem ba_args_setitem (a b c : Value) : argsOk "bytearray.__setitem__" ⟨[a, b, c], []⟩ := by unfold argsOk; kernel_rfl
theorem ba_look_buffer : typeLookup (.type "bytearray") "__buffer__" = pure (some (.builtin "bytearray.__buffer__")) := by rw [typeLookup_type, builtinLookup_eq_fast]; kernel_rfl
theorem ba_look_bytes : typeLookup (.type "bytearray") "__bytes__" = pure none := by rw [typeLookup_type, builtinLookup_eq_fast]; kernel_rfl
theorem ba_look_index : typeLookup (.type "bytearray") "__index__" = pure none := by rw [typeLookup_type, builtinLookup_eq_fast]; kernel_rfl
theorem ba_buf_ends : ("bytearray.__buffer__".endsWith ("." ++ "__buffer__")) = true := by decide +kernel
theorem ba_buf_drop : ("bytearray.__buffer__".dropRight ("__buffer__".length + 1)) = "bytearray" := by decide +kernel
section
variable {prog : Program} {w : World} {A : Around} {E : Value → Shared → Prop} {s : Shared} {h₀ : Heap} {L : Addr} {m : Str → Option Value} {news : List (Addr × Obj)}
theorem ba_set {D : Addr} {b : Array UInt8} {k v : Int} {t u : Tok} {Q : Unit → Shared → Prop} (hD : s.heap.get? D = some (baObj b)) (h0 : 0 ≤ k) (hk : k < b.size) (hz : b.size ≤ 1000000) (hv0 : 0 ≤ v) (hv : v < 256)
    (hQ : Q () { s with heap := s.heap.update D (Obj.mapBytearray (·.setIfInBounds k.toNat v.toNat.toUInt8)) }) :
    wpAny (model prog w) A (setItem (.ref D) (.int k t) (.int v u)) Q E s := by
  have hT : s.TypeIs (.ref D) "bytearray" := ⟨_, hD, rfl⟩
  unfold setItem
  try with_reducible refine wpAny_holding ?_
  first | refine wpAny_bind (wpAny_pure ?_) | skip
  refine wpAny_bind (wpAny_sequenceKey hT (by decide) ?_)
  refine wpAny_bind (wpAny_callSpecial?_slot (name := Str.ofString "__setitem__") hT ba_slot_setitem
    (wpAny_call_entry ba_slot_setitem hT ba_entry_setitem ?_ (ba_args_setitem _ _ _)))
  unfold Builtin.«bytearray.__setitem__»
  refine bm_if_false rfl ?_
  dsimp only
  refine wpAny_bind ?_
  unfold Builtin.Bytes.subscript?
  refine wpAny_bind (wpAny_specialOf (T := "int") (typeIs_int _ _ _) ba_int_index ?_)
  refine aIf_not (by decide) ?_
  refine wpAny_bind (wpAny_of_eq (rfl : asIndex (.int k t) = pure k) ?_)
  refine aIf_not (by unfold Builtin.Bytes.fitsIndex; simp only [Bool.not_eq_true, Bool.not_eq_false', Bool.and_eq_true, decide_eq_true_eq]; omega) ?_
  refine wpAny_pure ?_
  dsimp only
  refine wpAny_bind ?_
  unfold Builtin.Bytes.byteValue
  refine wpAny_bind (wpAny_of_eq (rfl : asIndex (.int v u) = pure v) ?_)
  refine aIf_not (by simp only [Bool.or_eq_true, decide_eq_true_eq]; omega) ?_
  refine wpAny_pure ?_
  refine wpAny_bind ?_
  unfold Builtin.Bytes.payload Builtin.Bytes.payload?
  refine wpAny_bind (wpAny_bind (wpAny_load hD ?_))
  refine wpAny_pure (wpAny_pure ?_)
  rw [StrLaws.seqIndex_nonneg h0 hk]
  dsimp only
  refine wpAny_bind ?_
  show wpAny _ _ (updateBytearray D (·.setIfInBounds k.toNat v.toNat.toUInt8)) _ _ _
  unfold updateBytearray
  refine wpAny_bind (wpAny_load hD ?_)
  refine wpAny_bind (wpAny_update hD ?_)
  have hD₂ : (s.heap.update D (Obj.mapBytearray (·.setIfInBounds k.toNat v.toNat.toUInt8))).get? D = some (baObj (b.setIfInBounds k.toNat v.toNat.toUInt8)) := Heap.get?_update_self _ hD rfl
  refine wpAny_lookBehind hD₂ ?_ ?_
  · show (if (b.setIfInBounds k.toNat v.toNat.toUInt8).size > sizeLine then some "bytearray:memory" else none) = none
    rw [if_neg]
    rw [Array.size_setIfInBounds, sizeLine_eq]
    omega
  · refine wpAny_pure ?_
    exact ⟨_, rfl, wpAny_pure hQ⟩
theorem ba_set_K {D : Addr} {b : Array UInt8} {k v : Int} {t u : Tok} {Q : Unit → Shared → Prop} {pre post : List (Addr × Obj)} (F : Fr h₀ L s.heap m) (N : News h₀ L s.heap (pre ++ (D, baObj b) :: post))
    (h1 : ∀ p ∈ pre, p.1 ≠ D) (h2 : ∀ p ∈ post, p.1 ≠ D) (h0 : 0 ≤ k) (hk : k < b.size) (hz : b.size ≤ 1000000) (hv0 : 0 ≤ v) (hv : v < 256)
    (h : ∀ h', Fr h₀ L h' m → News h₀ L h' (pre ++ (D, baObj (b.setIfInBounds k.toNat v.toNat.toUInt8)) :: post) → Q () { s with heap := h' }) :
    wpAny (model prog w) A (setItem (.ref D) (.int k t) (.int v u)) Q E s := by
  refine ba_set (N (D, baObj b) (List.mem_append_right _ (List.mem_cons_self ..))).1 h0 hk hz hv0 hv ?_
  have := news_upd (f := Obj.mapBytearray (·.setIfInBounds k.toNat v.toNat.toUInt8)) (o' := baObj (b.setIfInBounds k.toNat v.toNat.toUInt8)) F N h1 h2 rfl rfl
  exact h _ this.1 this.2
theorem ba_buffer {D : Addr} {b : Array UInt8} {M : Model} {Q : Option (Array UInt8) → Shared → Prop} (hD : s.heap.get? D = some (baObj b)) (h : Q (some b) s) :
    wpAny M A (Builtin.Bytes.buffer? "bytes.__new__" (.ref D) true) Q E s := by
  have hT : s.TypeIs (.ref D) "bytearray" := ⟨_, hD, rfl⟩
  unfold Builtin.Bytes.buffer?
  refine wpAny_bind (wpAny_specialOf hT ba_look_buffer ?_)
  refine wpAny_bind ?_
  unfold Builtin.Bytes.slotIsOwn
  refine wpAny_bind (wpAny_specialOf hT ba_look_buffer ?_)
  dsimp only
  rw [ba_buf_ends, ba_buf_drop]
  refine wpAny_ite_false rfl ?_
  refine wpAny_isInstance hT ba_sub ?_
  refine wpAny_ite_false rfl ?_
  refine wpAny_bind (wpAny_specialOf hT ba_look_buffer ?_)
  refine wpAny_bind (ba_ownRelease hT ?_)
  refine wpAny_ite_false rfl ?_
  refine wpAny_bind ?_
  unfold Builtin.Bytes.payload Builtin.Bytes.payload?
  refine wpAny_bind (wpAny_bind (wpAny_load hD ?_))
  exact wpAny_pure (wpAny_pure (wpAny_pure h))
theorem bytes_of_ba {D : Addr} {b : Array UInt8} {Q : Value → Shared → Prop} (hD : s.heap.get? D = some (baObj b)) (hz : b.size ≤ 1000000)
    (hQ : ∀ t k, Q (.bytes b t) { s with toks := k }) :
    codeAny (model prog w) A (.call (.builtin "bytes.__new__") ⟨[.type "bytes", .ref D], []⟩) (wants Q E) s := by
  refine codeAny_of_tree ?_
  show wpAny _ A.in1 (do checkBuiltinCall "bytes.__new__" ⟨[.type "bytes", .ref D], []⟩; again (.builtin "bytes.__new__" ⟨[.type "bytes", .ref D], []⟩)) _ _ s
  refine wpAny_bind (wpAny_of_eq (F.bm_newCall _) (wpAny_pure ⟨plainId_quiet F.bm_plain _, codeAny_builtin F.bm_entry ?_⟩))
  rw [Around.under_plainId F.bm_plain _]
  have hT : s.TypeIs (.ref D) "bytearray" := ⟨_, hD, rfl⟩
  unfold Builtin.«bytes.__new__»
  refine wpAny_bind (wpAny_of_eq (a := true) rfl ?_)
  refine bm_if_false rfl ?_
  refine wpAny_bind (wpAny_of_eq F.bm_sub ?_)
  refine bm_if_false rfl ?_
  refine wpAny_bind (wpAny_of_eq (F.bm_bind _) ?_)
  refine wpAny_bind (wpAny_of_eq (a := ()) rfl ?_)
  refine wpAny_bind (wpAny_of_eq (a := ()) rfl ?_)
  refine bm_if_false rfl ?_
  refine wpAny_bind (wpAny_specialOf hT ba_look_bytes ?_)
  refine wpAny_bind (wpAny_bind ?_)
  show wpAny _ _ (load D >>= _) _ _ _
  refine wpAny_bind (wpAny_load hD ?_)
  refine wpAny_pure (wpAny_pure ?_)
  refine bm_if_false rfl ?_
  refine wpAny_bind (wpAny_specialOf hT ba_look_index ?_)
  refine bm_if_true rfl ?_
  first
    | show wpAny _ _ (Builtin.Bytes.buffer? "bytes.__new__" (.ref D) true >>= _) _ _ _
    | (refine wpAny_bind ?_; show wpAny _ _ (Builtin.Bytes.buffer? "bytes.__new__" (.ref D) true >>= _) _ _ _)
  refine wpAny_bind (ba_buffer hD ?_)
  refine wpAny_bind (wpAny_rule ?_)
  refine wpAny_bind (wpAny_mkBytes ?_ (by rw [sizeLine_eq]; omega))
  show wpAny _ _ (if (Value.type "bytes" == Value.type "bytes") = true then _ else _) _ _ _
  refine bm_if_true (by decide) ?_
  first
    | exact wpAny_pure (hQ _ _)
    | exact wpAny_bind (wpAny_pure (wpAny_pure (hQ _ _)))
theorem call_bytes_ba {D : Addr} {b : Array UInt8} {Q : Value → Shared → Prop} (hD : s.heap.get? D = some (baObj b)) (hz : b.size ≤ 1000000)
    (hQ : ∀ t k, Q (.bytes b t) { s with toks := k }) : wpAny (model prog w) A (call (.type "bytes") [.ref D]) Q E s := by
  refine callType_codes (Q₁ := fun obj s₁ => s₁.TypeIs obj "bytes" ∧ Q obj s₁) F.bm_called (F.bm_typeCall _) F.entry_object_init
    (bytes_of_ba hD hz fun t k => ⟨PySem.W.typeIs_bytes _ _ _, hQ t k⟩) fun obj s₁ h₁ => ?_
  exact ⟨h₁.1, F.args_object_init_2 obj _, object_init_meets F.bm_called.init.lookup F.bm_called.made (by decide) prog w A.in1 _ s₁ ⟨h₁.1, rfl, h₁.2⟩⟩
end
end Mine
namespace Mine
theorem byte_item {prog : Program} {w : World} {A : Around} {E : Value → Shared → Prop} {s : Shared} {value slice : Expr} {b : Array UInt8} {t : Tok} {i : Int} {ui : Tok} {Q : Value → Shared → Prop} (hz : b.size ≤ 1000000) (h0 : 0 ≤ i) (h1 : i < (b.size : Int))
    (h : ∀ t' k, Q (.int ((b.getD i.toNat 0).toNat : Nat) t') { s with toks := k })
    (hs : subscripted slice false (.bytes b t) (.int i ui) = operate [.bytes b t, .int i ui] (getItem (.bytes b t) (.int i ui)) := by with_unfolding_all rfl)
    (ht : ∀ r, letTemporaryGo value (.bytes b t) r = pure () := by intro _; with_unfolding_all rfl) :
    wpAny (model prog w) A (subscriptTail value slice (.bytes b t) (.int i ui)) Q E s := by
  obtain ⟨l⟩ := b
  refine KBy.item_N (x := l) (by simp at hz; omega) h0 (by simpa using h1) ?_ hs ht
  have := h s.toks (s.toks + 1)
  simpa using this
theorem byte_back (c : UInt8) : ((c.toNat : Nat) : Int).toNat.toUInt8 = c := by simp
theorem byte_lt (c : UInt8) : ((c.toNat : Nat) : Int) < 256 := by have := c.toNat_lt; omega
end Mine
end
theorem Mine.off_Swp : True := by
  w_top off
  trivial
section
open PySem PySem.W PyProof.Rows PySem.Calls
set_option Elab.async false
set_option maxRecDepth 100000
set_option maxHeartbeats 8000000
namespace Mine
/-- each stretch of k octets turned round -/
def swp (b : Array UInt8) (k : Nat) : Array UInt8 := Array.ofFn (n := b.size) fun i => b.getD (i.val / k * k + (k - 1 - i.val % k)) 0
theorem swp_size (b : Array UInt8) (k : Nat) : (swp b k).size = b.size := by simp [swp]
theorem swp_get {b : Array UInt8} {k i : Nat} (h : i < b.size) : (swp b k)[i]? = some (b.getD (i / k * k + (k - 1 - i % k)) 0) := by
  simp [swp, Array.getElem?_ofFn, h]
theorem swp_at {b : Array UInt8} {k q j : Nat} (hj : j < k) (h : q * k + (k - 1 - j) < b.size) : (swp b k)[q * k + (k - 1 - j)]? = some (b.getD (q * k + j) 0) := by
  rw [swp_get h]
  have h1 : (q * k + (k - 1 - j)) / k = q := by
    rw [Nat.mul_comm, Nat.mul_add_div (by omega), Nat.div_eq_of_lt (by omega)]
    omega
  have h2 : (q * k + (k - 1 - j)) % k = k - 1 - j := by
    rw [Nat.mul_comm, Nat.mul_add_mod, Nat.mod_eq_of_lt (by omega)]
  rw [h1, h2]
  congr 2
  omega
theorem swp_step {b arr : Array UInt8} {k q j : Nat} (hs : arr.size = b.size) (hj : j < k) (hb : q * k + k ≤ b.size)
    (h1 : ∀ i, i < q * k → arr[i]? = (swp b k)[i]?) (h2 : ∀ j', j' < j → arr[q * k + (k - 1 - j')]? = (swp b k)[q * k + (k - 1 - j')]?) :
    (arr.setIfInBounds (q * k + (k - 1 - j)) (b.getD (q * k + j) 0)).size = b.size ∧
    (∀ i, i < q * k → (arr.setIfInBounds (q * k + (k - 1 - j)) (b.getD (q * k + j) 0))[i]? = (swp b k)[i]?) ∧
    ∀ j', j' < j + 1 → (arr.setIfInBounds (q * k + (k - 1 - j)) (b.getD (q * k + j) 0))[q * k + (k - 1 - j')]? = (swp b k)[q * k + (k - 1 - j')]? := by
  refine ⟨by simp [hs], fun i hi => ?_, fun j' hj' => ?_⟩
  · rw [Array.getElem?_setIfInBounds_ne (by omega)]
    exact h1 i hi
  · by_cases e : j' = j
    · subst e
      rw [Array.getElem?_setIfInBounds_self, if_pos (by omega), swp_at hj (by omega)]
    · rw [Array.getElem?_setIfInBounds_ne (by omega)]
      exact h2 j' (by omega)
theorem swp_block {b arr : Array UInt8} {k q : Nat} (h1 : ∀ i, i < q * k → arr[i]? = (swp b k)[i]?) (h2 : ∀ j', j' < k → arr[q * k + (k - 1 - j')]? = (swp b k)[q * k + (k - 1 - j')]?) :
    ∀ i, i < (q + 1) * k → arr[i]? = (swp b k)[i]? := by
  intro i hi
  by_cases h : i < q * k
  · exact h1 i h
  · rw [Nat.add_mul] at hi
    have := h2 (k - 1 - (i - q * k)) (by omega)
    have e : q * k + (k - 1 - (k - 1 - (i - q * k))) = i := by omega
    rwa [e] at this
theorem swp_all {b arr : Array UInt8} {k : Nat} (hs : arr.size = b.size) (hd : k ∣ b.size) (h : ∀ i, i < b.size / k * k → arr[i]? = (swp b k)[i]?) : arr = swp b k := by
  rw [Nat.div_mul_cancel hd] at h
  apply Array.ext_getElem?
  intro i
  by_cases hi : i < b.size
  · exact h i hi
  · rw [Array.getElem?_eq_none (by omega), Array.getElem?_eq_none (by rw [swp_size]; omega)]
end Mine
namespace Mine
theorem swp_whole {b : Array UInt8} {n : Nat} (h : b.size = n) : swp b n = b.reverse := by
  subst h
  apply Array.ext_getElem?
  intro i
  by_cases hi : i < b.size
  · rw [swp_get hi, Nat.div_eq_of_lt hi, Nat.mod_eq_of_lt hi, Array.getElem?_reverse hi]
    have h2 : b.size - 1 - i < b.size := by omega
    rw [Array.getElem?_eq_getElem h2]
    simp [Array.getD, h2]
  · rw [Array.getElem?_eq_none (by rw [swp_size]; omega), Array.getElem?_eq_none (by rw [Array.size_reverse]; omega)]
theorem swp_twice {b : Array UInt8} {n : Nat} (h : b.size = n) : swp (swp b n) n = b := by
  rw [swp_whole (by rw [swp_size]; exact h), swp_whole h, Array.reverse_reverse]
end Mine
end
theorem Mine.off_Base : True := by
  w_top off
  trivial
section
open PySem PySem.W PyProof.Rows
set_option Elab.async false
set_option maxRecDepth 100000
set_option maxHeartbeats 8000000
namespace Mine
theorem tok_pos {α : Type} {M : Model} {A : Around} {t : Sem α} {Q : α → Shared → Prop} {E : Value → Shared → Prop} {h : Heap} {g : Array GenState} {d : Drawn} {k : Nat} {o : OsState}
   (hk : 0 < k) (H : ∀ tk, 0 < tk → wpAny M A t Q E ⟨h, g, d, tk, o⟩) : wpAny M A t Q E ⟨h, g, d, k, o⟩ := H k hk
section
variable {prog : Program} {w : World} {A : Around} {E : Value → Shared → Prop} {s : Shared} {x y z : Str} {t u v : Tok} {Q : Value → Shared → Prop}
theorem replace_up (hu : u ≠ 0) (hv : v ≠ 0) (huv : u ≠ v) (hyz : (y == z) = false) (hb : x.length + (x.length + 1) * z.length ≤ 16777216)
    (hq : ∀ t' k, s.toks ≤ k → Q (.str (Txt.replace x y z) t') { s with toks := k }) : wpAny (model prog w) A (call (.builtin "str.replace") [.str x t, .str y u, .str z v]) Q E s := by
  have e : (2 : Nat) ^ 24 = 16777216 := by decide
  have hl : Builtin.Str.tooLong (x.length + (Builtin.Str.occurrences x y 0 x.length (x.length + 1)).length * z.length) = false := by
    have h1 := StrLaws.occ_length_le x y 0 x.length (x.length + 1)
    have h2 : (Builtin.Str.occurrences x y 0 x.length (x.length + 1)).length * z.length ≤ (x.length + 1) * z.length := Nat.mul_le_mul_right _ h1
    unfold Builtin.Str.tooLong sizeLine
    exact decide_eq_false (by omega)
  refine call_gives F.slot_str_replace (typeIs_str _ _ _) F.entry_str_replace (F.args_str_replace_3 _ _ _)
    (gives_str_replace x y z t u v fun _ => ⟨by simp [hu, hv], by simp [huv], hyz, hl⟩) ?_
  unfold Txt.replace at hq
  cases hc : ((Builtin.Str.occurrences x y 0 x.length (x.length + 1)).isEmpty || (y.length == 0 && z.length == 0))
  · rw [hc] at hq
    simp only [Bool.false_eq_true, if_false] at hq ⊢
    exact ⟨fits_replaced y hb, hq _ _ (Nat.le_succ _)⟩
  · rw [hc] at hq
    simp only [if_true] at hq ⊢
    exact hq t s.toks (Nat.le_refl _)
end
end Mine
namespace Mine
def rev (x : Str) : Str := ⟨x.cps.reverse⟩
theorem rev_length (x : Str) : (rev x).length = x.length := by simp [rev, Str.length]
theorem sliceBy_rev (x : Str) (u : Tok) : Txt.sliceBy x none none (-1, u) = rev x := by
  apply Str.ext'
  apply Array.ext'
  rw [step_rev_list]
  simp only [rev, Array.toList_reverse]
  apply List.ext_getElem
  · simp [Str.length]
  · intro i h1 h2
    simp only [List.length_map, List.length_range] at h1
    have h1' : i < x.cps.size := h1
    have hlt : x.cps.size - 1 - i < x.cps.size := by omega
    simp only [List.getElem_map, List.getElem_range, List.getElem_reverse, Array.length_toList, Array.getElem_toList, Str.length]
    simp [Array.getD, hlt]
def dq (x : Str) : Str := Txt.replace x (Str.ofString "\"") (Str.ofString "\"\"")
theorem dq_cps (x : Str) : (dq x).cps.toList = StrLaws.dbl 34 x.cps.toList := by
  have e1 : Str.ofString "\"" = ⟨#[34]⟩ := by decide +kernel
  have e2 : Str.ofString "\"\"" = ⟨#[34, 34]⟩ := by decide +kernel
  unfold dq
  rw [e1, e2]
  exact StrLaws.replace_double x 34
theorem dbl_length_le (c : Nat) : ∀ l : List Nat, (StrLaws.dbl c l).length ≤ 2 * l.length := by
  intro l
  induction l with
  | nil => simp [StrLaws.dbl]
  | cons a r ih =>
    simp only [StrLaws.dbl, List.length_cons]
    split <;> simp only [List.length_cons] <;> omega
theorem dq_length (x : Str) : (dq x).length ≤ 2 * x.length := by
  have h := dbl_length_le 34 x.cps.toList
  rw [← dq_cps] at h
  simpa [Str.length] using h
end Mine
namespace Mine
theorem slice_to {x : Str} {k : Nat} (h : k ≤ x.cps.toList.length) : Txt.slice x none (some (k : Int)) = ⟨(x.cps.toList.take k).toArray⟩ := by
  have := StrLaws.sliceText_to (x := x) (j := (k : Int)) ⟨by omega, by omega⟩
  show StrLaws.sliceText x none (some (k : Int)) = _
  rw [this]; simp
theorem slice_ij {x : Str} {j k : Nat} (hjk : j ≤ k) (h : k ≤ x.cps.toList.length) : Txt.slice x (some (j : Int)) (some (k : Int)) = ⟨((x.cps.toList.drop j).take (k - j)).toArray⟩ := by
  show StrLaws.sliceText x (some (j : Int)) (some (k : Int)) = _
  exact StrLaws.sliceText_nat x hjk (by simpa [Str.length] using h)
end Mine
end
theorem Mine.off_B_swap : True := by
  w_top off
  trivial
section
open PySem PySem.W PyProof.Rows PySem.Calls
set_option Elab.async false
set_option maxRecDepth 100000
set_option maxHeartbeats 8000000
namespace Mine
theorem swap_d (w : World) (mean : ExcName → Option Value) (mg mb : Str → Option Value) (b : Array UInt8) (wd : Int) (tb tw : Tok)
   (h0 : 0 < wd) (hdvd : wd.toNat ∣ b.size) (hsz : b.size ≤ 100000) (hwd : wd ≤ 100000) :
   RC 1 10 PySem.Challenge.rw_pe0048_02.row.prog w (hd2.heap_39 w.params) hd2.view_39 (looseW hd2.view_39 []) mean mg mb 21 [.bytes b tb, .int wd tw] (fun t => .bytes (swp b wd.toNat) t) := by
  k_fill
  intro news dp un gd cn cs a ccd cl outer A₀ base h₀ L m s Q E B F X N T hcs hdp hun hret
  refine wpR_call ?_
  k_dflt (refine' codeR_def (binds := [(Str.ofString "data", .bytes b tb), (Str.ofString "width", .int wd tw)]) B F X N T rfl rfl hcs ?k6 ?k7 ?k8 ?k9 ?kB ?_ ?c2 ?c3 ?c4 ?c5; (case k6 => k_is); (case k7 => k_is); (case k8 => ktr_room); (case k9 => exact BindsTo.of_eq rfl); (case c5 => decide); (case kB => exact locs rfl); (case c2 => exact rfl); (case c3 => exact rfl); (case c4 => exact rfl); k_whole)
  intro g' L' h' FG' F' N' B' X' T' hlt
  clear F N X T B
  refine R_stmtR (R_assign ?_)
  refine R_Call ?_
  k_steps
  refine R_args_type (R_args_cons (wpR_of_any ?_))
  k_steps
  refine R_args_nil ?_
  dsimp only
  refine ba_new_K (by assumption) (by assumption) (by omega) (by omega) ?_
  intro D h1 k1 F1 N1 hD
  dsimp only
  k_steps
  refine wpR_of_any (wpAny_mono (E := fun _ _ => False) (Q := _) ?_ (fun _ _ h => h) (fun _ _ h => h.elim))
  refine wpAny_execs_cons (For_hold g' rfl rfl ?_ (fun _ => rfl) PassesOwn.never)
  k_steps
  rename_i hR F2 N2 hk2
  refine Hold.mk ?_
  have hsq : (b.size : Int) = ((b.size / wd.toNat : Nat) : Int) * wd := by
    have h1 : b.size / wd.toNat * wd.toNat = b.size := Nat.div_mul_cancel hdvd
    have h2 : ((wd.toNat : Nat) : Int) = wd := by omega
    rw [← h2, ← Int.natCast_mul, Int.toNat_natCast, h1]
  refine range_loop (n := b.size / wd.toNat) (Str.ofString "j") (fun q news₁ => ∃ arr : Array UInt8, news₁ = (D, baObj arr) :: news ∧ arr.size = b.size ∧ ∀ i, i < q * wd.toNat → arr[i]? = (swp b wd.toNat)[i]?) rfl hR (small_of (by omega) (by omega) (by omega) (by omega) (by omega) (by omega)) (by rw [hsq]; exact rangeSize_block h0) F2 N2 ?_ ?_ ?_
  · exact ⟨_, rfl, by simp, fun i hi => by omega⟩
  · intro q tq u news₁ I oI h3 tk3 hq hI hJ F3 N3
    obtain ⟨arr, rfl, hasz, harr⟩ := hJ
    have hp : q * wd.toNat + wd.toNat ≤ b.size := by
      have h1 : (q + 1) * wd.toNat ≤ b.size / wd.toNat * wd.toNat := Nat.mul_le_mul_right _ hq
      rw [Nat.div_mul_cancel hdvd, Nat.add_mul, Nat.one_mul] at h1
      exact h1
    have eq : 0 + (q : Int) * wd = ((q * wd.toNat : Nat) : Int) := by
      have h2 : ((wd.toNat : Nat) : Int) = wd := by omega
      rw [Int.zero_add, Int.natCast_mul, h2]
    rw [eq] at F3
    refine wpAny_execs_cons (For_hold g' rfl rfl ?_ (fun _ => rfl) PassesOwn.never)
    k_steps
    rename_i hR' F4 N4 hk4
    refine Hold.mk ?_
    refine range_loop (n := wd.toNat) (Str.ofString "j") (fun j news₂ => ∃ arr : Array UInt8, news₂ = (I, oI) :: (D, baObj arr) :: news ∧ arr.size = b.size ∧ (∀ i, i < q * wd.toNat → arr[i]? = (swp b wd.toNat)[i]?) ∧ ∀ j', j' < j → arr[q * wd.toNat + (wd.toNat - 1 - j')]? = (swp b wd.toNat)[q * wd.toNat + (wd.toNat - 1 - j')]?) rfl hR' (small_of (by omega) (by omega) (by omega) (by omega) (by omega) (by omega)) (by rw [rangeSize_one, if_pos h0]; omega) F4 N4 ?_ ?_ ?_
    · exact ⟨_, rfl, hasz, harr, fun j' hj' => by omega⟩
    · intro j tj u' news₂ I' oI' h5 tk5 hj hI' hJ' F5 N5
      obtain ⟨arr₁, rfl, hasz₁, harr₁, harr₂⟩ := hJ'
      have ej : 0 + (j : Int) * 1 = (j : Int) := by omega
      rw [ej] at F5
      have hstep := swp_step hasz₁ hj hp harr₁ harr₂
      generalize hP : q * wd.toNat = P at *
      have hj' : (j : Int) < wd := by omega
      k_steps
      refine byte_item (by omega) (by omega) (by omega) ?_
      intro t6 k6
      have e2 : ((P : Int) + (j : Int)).toNat = P + j := by omega
      rw [e2]
      dsimp only
      k_steps
      refine ba_set_K (pre := [(I', oI'), (I, oI)]) (post := news) F5 N5 ?_ (fun p hp => Nat.ne_of_lt (hD p hp)) (by omega) (by omega) (by omega) (Int.natCast_nonneg _) (byte_lt _) ?_
      · intro p hp
        rcases List.mem_cons.mp hp with rfl | hp
        · exact (hI' (D, baObj arr₁) (List.mem_cons_of_mem _ (List.mem_cons_self ..))).symm
        · rcases List.mem_cons.mp hp with rfl | hp
          · exact (hI (D, baObj arr) (List.mem_cons_self ..)).symm
          · exact absurd hp (List.not_mem_nil)
      · intro h7 F7 N7
        have e1 : ((P : Int) + wd - 1 - (j : Int)).toNat = P + (wd.toNat - 1 - j) := by omega
        rw [e1, byte_back] at N7
        dsimp only
        k_steps
        refine ⟨h7, _, _, _, rfl, F7, N7, ?_, fun y h1 _ => ?_, _, rfl, hstep.1, hstep.2.1, hstep.2.2⟩
        · intro p hp
          rcases List.mem_cons.mp hp with rfl | hp
          · exact hI' _ (List.mem_cons_self ..)
          · rcases List.mem_cons.mp hp with rfl | hp
            · exact hI' (D, baObj arr₁) (List.mem_cons_of_mem _ (List.mem_cons_self ..))
            · exact hI' _ (List.mem_cons_of_mem _ (List.mem_cons_of_mem _ hp))
        · simp only [h1, if_false]
    · intro u' news₂ h5 tk5 hJ' F5 N5
      obtain ⟨arr₁, rfl, hasz₁, harr₁, harr₂⟩ := hJ'
      dsimp only
      k_steps
      refine ⟨h5, _, _, _, rfl, F5, N5, fun p hp => ?_, fun y h1 h2 => ?_, arr₁, rfl, hasz₁, swp_block harr₁ harr₂⟩
      · rcases List.mem_cons.mp hp with rfl | hp
        · exact hI (D, baObj arr) (List.mem_cons_self ..)
        · exact hI _ (List.mem_cons_of_mem _ hp)
      · simp only [h1, h2, if_false]
  · intro u news₁ h3 tk3 hJ F3 N3
    obtain ⟨arr, rfl, hasz, harr⟩ := hJ
    k_steps
    refine call_bytes_ba (N3 _ (List.mem_cons_self ..)).1 (by omega) ?_
    intro t9 k9
    rw [swp_all hasz hdvd harr]
    refine leaveK_ F3 N3 fun F8 N8 => hret _ _ _ F8 (fun p hp => N8 p (.tail _ hp))
end Mine
end
theorem Mine.off_Unq : True := by
  w_top off
  trivial
section
open PySem PySem.W PyProof.Rows PySem.Calls
set_option Elab.async false
set_option maxRecDepth 100000
set_option maxHeartbeats 8000000
namespace Mine
/-- a quoted text up to its closing mark, its doubled marks single -/
def unq : List Nat → List Nat
  | [] => []
  | [c] => if c = 34 then [] else [c]
  | c :: d :: r => if c = 34 then (if d = 34 then 34 :: unq r else []) else c :: unq (d :: r)
theorem unq_plain {c : Nat} (r : List Nat) (h : c ≠ 34) : unq (c :: r) = c :: unq r := by
  cases r with
  | nil => simp [unq, h]
  | cons d r => simp [unq, h]
theorem unq_two (r : List Nat) : unq (34 :: 34 :: r) = 34 :: unq r := by simp [unq]
theorem unq_end {d : Nat} (r : List Nat) (h : d ≠ 34) : unq (34 :: d :: r) = [] := by simp [unq, h]
theorem unq_last : unq [34] = [] := by simp [unq]
theorem item_at {x : Str} {p l : List Nat} {i c : Nat} (hx : x.cps.toList = p ++ l) (h : l[i]? = some c) : Txt.item x ((p.length + i : Nat) : Int) = ⟨#[c]⟩ := by
  have hlt : i < l.length := by
    cases hq : Nat.decLt i l.length with
    | isTrue h => exact h
    | isFalse h' => rw [List.getElem?_eq_none (by omega)] at h; cases h
  have hl : x.length = p.length + l.length := by
    have := congrArg List.length hx
    simpa [Str.length] using this
  have hc : x.cps[p.length + i]? = some c := by
    rw [← Array.getElem?_toList, hx, List.getElem?_append_right (by omega), Nat.add_sub_cancel_left]
    exact h
  unfold Txt.item Txt.charAt
  rw [StrLaws.at_nonneg (by omega) (by rw [Int.toNat_natCast]; exact hc)]
  rfl
theorem quote_ne {c : Nat} : ((⟨#[c]⟩ : Str) != Str.ofString "\"") = true ↔ c ≠ 34 := by
  have e : Str.ofString "\"" = ⟨#[34]⟩ := by decide +kernel
  rw [e, bne_iff_ne]
  constructor
  · rintro h rfl; exact h rfl
  · intro h e; have := congrArg Str.cps e; simp at this; exact h this
theorem quote_eq {c : Nat} : ((⟨#[c]⟩ : Str) == Str.ofString "\"") = true ↔ c = 34 := by
  have e : Str.ofString "\"" = ⟨#[34]⟩ := by decide +kernel
  rw [e, beq_iff_eq]
  constructor
  · intro h; have := congrArg Str.cps h; simpa using this
  · rintro rfl; rfl
end Mine
end
theorem Mine.off_B_p257 : True := by
  w_top off
  trivial
section
open PySem PySem.W PyProof.Rows PySem.Calls
set_option Elab.async false
set_option maxRecDepth 100000
set_option maxHeartbeats 8000000
namespace Mine
theorem p257_d (w : World) (mean : ExcName → Option Value) (mg mb : Str → Option Value) (news : List (Addr × Obj)) (x : Str) (tx : Tok) (l : List Nat)
   (hx : x.cps.toList = 50 :: 53 :: 55 :: 32 :: 34 :: l) (hsz : x.length ≤ 100000) :
   CbClaim PySem.Challenge.rw_pe0048_02.row.prog w (hd2.heap_39 w.params) hd2.view_39 (looseW hd2.view_39 []) mean mg mb 72 news [] True [.str x tx] (fun t => .str ⟨(unq l).toArray⟩ t) := by
  k_fill
  unfold CbClaim
  dsimp only [CbLists, CbRet]
  intro dp un gd cn cs a ccd cl outer A₀ base h₀ L m s Q E B F X N T hcs _ hdp hun hret
  refine wpAny_call ?_
  k_dflt (refine' code_def (binds := [(Str.ofString "resp", .str x tx)]) B F X N T rfl rfl hcs ?k6 ?k7 ?k8 ?k9 ?kB ?_ ?c2 ?c3 ?c4 ?c5; (case k6 => k_is); (case k7 => k_is); (case k8 => ktr_room); (case k9 => exact BindsTo.of_eq rfl); (case c5 => decide); (case kB => exact locs rfl); (case c2 => exact rfl); (case c3 => exact rfl); (case c4 => exact rfl); k_whole)
  intro g' L' h' FG' F' N' B' X' T'
  clear F N X T B
  have hlen : x.length = 5 + l.length := by
    have := congrArg List.length hx
    simp only [Array.length_toList, List.length_cons] at this
    show x.cps.size = _
    omega
  have e1 : (Txt.slice x none (some 3) != Str.ofString "257") = false := by
    rw [show (3 : Int) = ((3 : Nat) : Int) from rfl, slice_to (by rw [hx]; simp), hx]; simp only [List.take_succ_cons, List.take_zero]; decide +kernel
  have e2 : (Txt.slice x (some 3) (some 5) != Str.ofString " \"") = false := by
    rw [show (3 : Int) = ((3 : Nat) : Int) from rfl, show (5 : Int) = ((5 : Nat) : Int) from rfl, slice_ij (by omega) (by rw [hx]; simp), hx]; simp only [List.drop_succ_cons, List.drop_zero, List.take_succ_cons, List.take_zero]; decide +kernel
  refine execs_hold ?_
  k_steps
  refine execs_hold ?_
  k_steps
  refine execs_hold ?_
  k_steps
  refine execs_hold ?_
  k_steps
  refine execs_hold ?_
  k_steps
  clear e1 e2
  rename_i F1 N1
  refine execs_hold ?_
  refine While_inv2 (n₀ := l.length) (fun k m₁ news₁ => news₁ = news ∧ (∃ t, m₁ (Str.ofString "resp") = some (.str x t)) ∧ (∃ t, m₁ (Str.ofString "n") = some (.int x.length t)) ∧
      ∃ (d : Str) (i : Nat), (∃ t, m₁ (Str.ofString "dirname") = some (.str d t)) ∧ (∃ t, m₁ (Str.ofString "i") = some (.int ((5 + i : Nat) : Int) t)) ∧ i + k = l.length ∧ d.length ≤ i ∧ d.cps.toList ++ unq (l.drop i) = unq l) F1 N1 ?_ ?_ PassesOwn.leaving
  · refine ⟨rfl, ⟨_, rfl⟩, ⟨_, rfl⟩, Str.ofString "", 0, ⟨_, rfl⟩, ⟨_, rfl⟩, by omega, by decide, ?_⟩
    rfl
  · rintro k m₁ news₁ h₁ tk₁ F₁ N₁ ⟨rfl, ⟨t1, hm1⟩, ⟨t2, hm2⟩, d, i, ⟨t3, hm3⟩, ⟨t4, hm4⟩, hik, hdi, hd⟩
    have em : m₁ = fun y => if y = Str.ofString "dirname" then some (.str d t3) else if y = Str.ofString "i" then some (.int ((5 + i : Nat) : Int) t4) else if y = Str.ofString "n" then some (.int x.length t2) else if y = Str.ofString "resp" then some (.str x t1) else m₁ y := by
      funext y
      split
      · rename_i e; rw [e]; exact hm3
      split
      · rename_i e; rw [e]; exact hm4
      split
      · rename_i e; rw [e]; exact hm2
      split
      · rename_i e; rw [e]; exact hm1
      rfl
    rw [em] at F₁
    clear F1 N1 em hm1 hm2 hm3 hm4
    by_cases hi : i < l.length
    · obtain ⟨c, hc⟩ : ∃ c, l[i]? = some c := ⟨l[i], List.getElem?_eq_getElem hi⟩
      have hit : Txt.item x ((5 + i : Nat) : Int) = ⟨#[c]⟩ := item_at (p := [50, 53, 55, 32, 34]) hx hc
      have hdr : l.drop i = c :: l.drop (i + 1) := by
        rw [List.drop_eq_getElem_cons hi]
        rw [List.getElem?_eq_getElem hi] at hc
        rw [Option.some.inj hc]
      have fin : unq (l.drop i) = [] → d = ⟨(unq l).toArray⟩ := by
        intro h0
        rw [h0, List.append_nil] at hd
        exact Str.ext' (Array.ext' (by rw [hd]))
      k_steps
      all_goals (rw [hit] at *)
      · have hq : c = 34 := quote_eq.mp (by assumption)
        have hn : (x.length : Int) ≤ ((5 + i : Nat) : Int) + 1 := by assumption
        have hd0 := fin (by rw [hdr, hq, List.drop_eq_nil_of_le (by omega)]; exact unq_last)
        subst hd0
        show wpAny _ _ (execs [_] _) _ _ _
        k_steps
        exact leaveK_ (L' := L') (by assumption) (by assumption) fun F8 N8 => hret _ _ _ F8 N8
      · have hq : c = 34 := quote_eq.mp (by assumption)
        have hn : ¬ (x.length : Int) ≤ ((5 + i : Nat) : Int) + 1 := by assumption
        have hne : (Txt.item x (((5 + i : Nat) : Int) + 1) != Str.ofString "\"") = true := by assumption
        obtain ⟨c', hc'⟩ : ∃ c', l[i + 1]? = some c' := ⟨l[i + 1], List.getElem?_eq_getElem (by omega)⟩
        have hit' : Txt.item x (((5 + i : Nat) : Int) + 1) = ⟨#[c']⟩ := item_at (p := [50, 53, 55, 32, 34]) (i := i + 1) hx hc'
        rw [hit', quote_ne] at hne
        have hd0 := fin (by
          rw [hdr, hq, List.drop_eq_getElem_cons (show i + 1 < l.length by omega)]
          rw [List.getElem?_eq_getElem (show i + 1 < l.length by omega)] at hc'
          rw [Option.some.inj hc']
          exact unq_end _ hne)
        subst hd0
        show wpAny _ _ (execs [_] _) _ _ _
        k_steps
        exact leaveK_ (L' := L') (by assumption) (by assumption) fun F8 N8 => hret _ _ _ F8 N8
      · have hq : c = 34 := quote_eq.mp (by assumption)
        have hn : ¬ (x.length : Int) ≤ ((5 + i : Nat) : Int) + 1 := by assumption
        have hne : (Txt.item x (((5 + i : Nat) : Int) + 1) != Str.ofString "\"") = false := by assumption
        obtain ⟨c', hc'⟩ : ∃ c', l[i + 1]? = some c' := ⟨l[i + 1], List.getElem?_eq_getElem (by omega)⟩
        have hit' : Txt.item x (((5 + i : Nat) : Int) + 1) = ⟨#[c']⟩ := item_at (p := [50, 53, 55, 32, 34]) (i := i + 1) hx hc'
        have he : c' = 34 := by
          rw [hit'] at hne
          by_cases h9 : c' = 34
          · exact h9
          · rw [quote_ne.mpr h9] at hne; cases hne
        have hk2 : i + 2 ≤ l.length := by omega
        refine ⟨_, _, _, _, k - 2, rfl, by assumption, by assumption, by omega, rfl, ⟨_, rfl⟩, ⟨_, rfl⟩, d ++ ⟨#[c]⟩, i + 2, ⟨_, rfl⟩, ⟨_, rfl⟩, by omega, ?_, ?_⟩
        · rw [Str.length_append]; show d.length + 1 ≤ i + 2; omega
        · rw [← hd, hdr, hq, List.drop_eq_getElem_cons (show i + 1 < l.length by omega)]
          rw [List.getElem?_eq_getElem (show i + 1 < l.length by omega)] at hc'
          rw [Option.some.inj hc', he, unq_two]
          show (d.cps ++ #[34]).toList ++ _ = _
          simp
      · have hq : ((⟨#[c]⟩ : Str) == Str.ofString "\"") = false := by assumption
        have hq' : c ≠ 34 := fun h9 => by rw [quote_eq.mpr h9] at hq; cases hq
        refine ⟨_, _, _, _, k - 1, rfl, by assumption, by assumption, by omega, rfl, ⟨_, rfl⟩, ⟨_, rfl⟩, d ++ ⟨#[c]⟩, i + 1, ⟨_, rfl⟩, ⟨_, rfl⟩, by omega, ?_, ?_⟩
        · rw [Str.length_append]; show d.length + 1 ≤ i + 1; omega
        · rw [← hd, hdr, unq_plain _ hq']
          show (d.cps ++ #[c]).toList ++ _ = _
          simp
    · k_steps
      have hd0 : d = ⟨(unq l).toArray⟩ := by
        rw [List.drop_eq_nil_of_le (by omega)] at hd
        exact Str.ext' (Array.ext' (by rw [← hd]; simp [unq]))
      subst hd0
      show wpAny _ _ (execs [_] _) _ _ _
      k_steps
      exact leaveK_ (L' := L') (by assumption) (by assumption) fun F8 N8 => hret _ _ _ F8 N8
end Mine
end
theorem Mine.off_Latin : True := by
  w_top off
  trivial
section
open PySem PySem.W PyProof.Rows PySem.Calls
set_option Elab.async false
set_option maxRecDepth 100000
set_option maxHeartbeats 8000000
namespace Mine
open Builtin._codecs
theorem forIn_once {σ : Type} {f : Nat → σ → Sem (ForInStep σ)} {s0 s1 : σ} (n : Nat) (a : Nat) (h0 : f a s0 = pure (.yield s1)) (h1 : ∀ x, f x s1 = pure (.done s1)) :
    forIn (List.range' a (n + 1)) s0 f = (pure s1 : Sem σ) := by
  rw [List.range'_succ, List.forIn_cons, h0]
  show forIn (List.range' (a + 1) n) s1 f = pure s1
  cases n with
  | zero => rfl
  | succ n =>
    rw [List.range'_succ, List.forIn_cons, h1]
    rfl
theorem fold_bytes (f : Nat → List UInt8) (hf : ∀ c, f c = [c.toUInt8]) (l : List Nat) : ∀ acc : Array UInt8, l.foldl (fun acc y => acc ++ (f y).toArray) acc = acc ++ (l.map (·.toUInt8)).toArray := by
  induction l with
  | nil => intro acc; simp
  | cons c r ih => intro acc; rw [List.foldl_cons, ih, hf]; simp
theorem enc_latin (id : String) (self : Value) (s : Str) (h : ∀ c ∈ s.cps.toList, c < 256) (hne : 0 < s.length) (hz : s.length ≤ 1000000) : encodeNarrow id latin1Codec none self s = pure (s.cps.map (·.toUInt8)) := by
  unfold encodeNarrow
  simp only [Std.Legacy.Range.forIn_eq_forIn_range', Std.Legacy.Range.size]
  have hno : s.cps.findIdx? latin1Codec.bad = none := by
    rw [Array.findIdx?_eq_none_iff]
    intro c hc
    have := h c (Array.mem_toList_iff.mpr hc)
    show decide (c ≥ 256) = false
    exact decide_eq_false (by omega)
  obtain ⟨n, hn⟩ : ∃ n, s.cps.size = n + 1 := ⟨s.cps.size - 1, by have : s.length = s.cps.size := rfl; omega⟩
  have hl : (s.length - 0 + 1 - 1) / 1 = n + 1 := by simp [Str.length, hn]
  rw [hl]
  obtain ⟨x, hx⟩ : ∃ x, s.cps[0]? = some x := ⟨s.cps[0], Array.getElem?_eq_getElem (by omega)⟩
  have hxb : latin1Codec.bad x = false := by
    have := h x (by rw [← Array.getElem?_toList] at hx; exact List.mem_of_getElem? hx)
    show decide (x ≥ 256) = false
    exact decide_eq_false (by omega)
  have hex : s.cps.extract 0 s.cps.size = s.cps := by simp
  refine (congrArg (fun m => Sem.bind m _) (forIn_once (s1 := (s.cps.size, s.cps.map (·.toUInt8), ({} : Faults))) n 0 ?_ ?_)).trans ?_
  · dsimp only
    rw [if_neg (by simp), hx]
    dsimp only
    rw [hxb]
    simp only [hex, hno, Option.getD_none, Nat.zero_add, Bool.not_false, if_true]
    rw [← Array.foldl_toList, fold_bytes latin1Codec.bytesOf (fun _ => rfl)]
    have e : (#[] : Array UInt8) ++ (List.map (fun x => x.toUInt8) s.cps.toList).toArray = Array.map (fun x => x.toUInt8) s.cps := by
      apply Array.ext'; simp
    simp only [Array.extract_size] at *
    rw [e]
  · intro y
    dsimp only
    have hb : ¬ (s.cps.map (·.toUInt8)).size > sizeLine := by rw [Array.size_map, sizeLine_eq]; have : s.length = s.cps.size := rfl; omega
    rw [if_neg hb, Array.getElem?_eq_none (Nat.le_refl _)]
  · rfl
theorem forIn_steps {σ : Type} {f : Nat → σ → Sem (ForInStep σ)} (st : Nat → σ) (n : Nat) (h : ∀ i, i < n → ∀ x, f x (st i) = pure (.yield (st (i + 1)))) :
    ∀ (k i a : Nat), i + k = n → forIn (List.range' a k) (st i) f = (pure (st n) : Sem σ) := by
  intro k
  induction k with
  | zero => intro i a hi; have : i = n := by omega
            subst this; rfl
  | succ k ih =>
    intro i a hi
    rw [List.range'_succ, List.forIn_cons, h i (by omega)]
    exact ih (i + 1) (a + 1) (by omega)
theorem forIn_all {σ : Type} {f : Nat → σ → Sem (ForInStep σ)} {s0 s1 : σ} (st : Nat → σ) (n : Nat) (e0 : st 0 = s0) (e1 : st n = s1) (h : ∀ i, i < n → ∀ x, f x (st i) = pure (.yield (st (i + 1)))) :
    forIn (List.range' 0 n) s0 f = (pure s1 : Sem σ) := by
  subst e0 e1
  exact forIn_steps st n h n 0 0 (by omega)
theorem dec_latin (id : String) (b : Array UInt8) (hz : b.size ≤ 1000000) : runDecoder id latin1Decoder none true b 0 [] = pure (b.map (·.toNat), b.size) := by
  unfold runDecoder
  simp only [Std.Legacy.Range.forIn_eq_forIn_range', Std.Legacy.Range.size]
  have hl : (b.size - 0 + 1 - 1) / 1 = b.size := by simp
  rw [hl]
  refine (congrArg (fun m => Sem.bind m _) (forIn_all (s1 := (b.size, b.map (·.toNat), ({} : Faults))) (fun i => (i, (b.extract 0 i).map (·.toNat), ({} : Faults))) b.size (by simp) (by simp) ?_)).trans ?_
  · intro i hi x
    dsimp only
    have hb : ¬ ((b.extract 0 i).map (·.toNat)).size > sizeLine := by rw [Array.size_map, Array.size_extract, sizeLine_eq]; omega
    rw [if_neg hb, if_neg (by omega)]
    show pure (ForInStep.yield (i + 1, (b.extract 0 i).map (·.toNat) ++ [(b.getD i 0).toNat].toArray, ({} : Faults))) = _
    have e : (b.extract 0 i).map (·.toNat) ++ [(b.getD i 0).toNat].toArray = (b.extract 0 (i + 1)).map (·.toNat) := by
      apply Array.ext'
      simp only [Array.toList_append, Array.toList_map, Array.toList_extract, List.extract_eq_drop_take, List.drop_zero, Nat.sub_zero]
      rw [List.take_add_one, Array.getElem?_toList, Array.getElem?_eq_getElem hi]
      simp [Array.getD, hi]
    rw [e]
  · rfl
end Mine
end
theorem Mine.off_Codec : True := by
  w_top off
  trivial
section
open PySem PySem.W PyProof.Rows PySem.Calls
set_option Elab.async false
set_option maxRecDepth 100000
set_option maxHeartbeats 8000000
namespace Mine
open Builtin Builtin._codecs
theorem enc_entry_eq (x : PySem.Str) (t u : Tok) : «str.encode» ⟨[.str x t, .str (PySem.Str.ofString "latin-1") u], []⟩ =
    ((encodeNarrow "str.encode" latin1Codec none (.str x t) x >>= fun b => mkBytes b) >>= fun v => ret v) := by kernel_rfl
theorem dec_entry_eq (c : UInt8) (cs : List UInt8) (t u : Tok) : «bytes.decode» ⟨[.bytes (c :: cs).toArray t, .str (PySem.Str.ofString "latin-1") u], []⟩ = (mkStr (PySem.Str.ofString "utf-8") >>= fun _ => mkStr (PySem.Str.ofString "latin-1") >>= fun e => mkStr (PySem.Str.ofString "bytes.decode") >>= fun d =>
    call (.builtin "_codecs.decode.text") [.bytes (c :: cs).toArray t, e, .none, d] >>= fun v => ret v) := by kernel_rfl
theorem dec_road_eq {id : String} {b : Array UInt8} : _codecs.decodeRoad id b (PySem.Str.ofString "latin-1") none [] = (_codecs.runDecoder id _codecs.latin1Decoder none true b 0 [] >>= fun r => mkStr ⟨r.1⟩) := by kernel_rfl
theorem enc_args (a b : Value) : argsOk "str.encode" ⟨[a, b], []⟩ := by unfold argsOk; kernel_rfl
theorem dec_args (a b : Value) : argsOk "bytes.decode" ⟨[a, b], []⟩ := by unfold argsOk; kernel_rfl
/-- the octets of a text of signs below 256, and back -/
def octs (x : PySem.Str) : Array UInt8 := x.cps.map (·.toUInt8)
def chrs (b : Array UInt8) : PySem.Str := ⟨b.map (·.toNat)⟩
section
variable {prog : Program} {w : World} {A : Around} {E : Value → Shared → Prop} {s : Shared}
theorem encode_K {x : PySem.Str} {t u : Tok} {Q : Value → Shared → Prop} (h : ∀ c ∈ x.cps.toList, c < 256) (hne : 0 < x.length) (hz : x.length ≤ 1000000)
    (hq : ∀ t' k, Q (.bytes (octs x) t') { s with toks := k }) : wpAny (model prog w) A (call (.builtin "str.encode") [.str x t, .str (PySem.Str.ofString "latin-1") u]) Q E s := by
  refine call_meets F.slot_str_encode (typeIs_str _ _ _) F.entry_str_encode (enc_args _ _) (S := fun _ R s => ∀ t' k, R (.ok (.ret (.bytes (octs x) t'))) { s with toks := k }) ?_ hq
  refine .of_wp fun prog w A R s hS => ?_
  rw [enc_entry_eq, enc_latin _ _ _ h hne hz]
  refine wpAny_bind (wpAny_bind (wpAny_pure (wpAny_mkBytes ?_ ?_)))
  · exact wpAny_pure ⟨_, rfl, hS _ _⟩
  · rw [Array.size_map, sizeLine_eq]; have : x.length = x.cps.size := rfl; omega
theorem dec_text {b : Array UInt8} {t t1 t2 : Tok} {d : PySem.Str} (hz : b.size ≤ 1000000) :
    Meets («_codecs.decode.text» ⟨[.bytes b t, .str (PySem.Str.ofString "latin-1") t1, .none, .str d t2], []⟩) (fun _ R s => R (.ok (.ret (.str (chrs b) s.toks))) { s with toks := s.toks + 1 }) := by
  refine .of_wp fun prog w A R s h => ?_
  show wpAny _ _ (Bytes.bytesLike _ (.bytes b t) >>= fun r => _) _ _ s
  refine wpAny_bind (wpAny_of_eq KBd.like_eq ?_)
  refine wpAny_bind (wpAny_of_eq KBd.held_eq ?_)
  show wpAny _ _ (_codecs.decodeRoad _ b (PySem.Str.ofString "latin-1") none [] >>= fun v => _) _ _ s
  rw [dec_road_eq, dec_latin _ _ hz]
  refine wpAny_bind (wpAny_bind (wpAny_pure ?_))
  refine wpAny_mkStr (wpAny_pure ⟨_, rfl, h⟩) ?_
  show (b.map (·.toNat)).size ≤ sizeLine
  rw [Array.size_map, sizeLine_eq]; omega
theorem decode_K {b : Array UInt8} {t u : Tok} {Q : Value → Shared → Prop} (hne : 0 < b.size) (hz : b.size ≤ 1000000)
    (hq : ∀ t' k, Q (.str (chrs b) t') { s with toks := k }) : wpAny (model prog w) A (call (.builtin "bytes.decode") [.bytes b t, .str (PySem.Str.ofString "latin-1") u]) Q E s := by
  obtain ⟨l⟩ := b
  cases l with
  | nil => simp at hne
  | cons c cs =>
    refine call_meets FB.slot_bytes_decode (typeIs_bytes _ _ _) FB.entry_bytes_decode (dec_args _ _) (S := fun _ R s => ∀ t' k, R (.ok (.ret (.str (chrs (c :: cs).toArray) t'))) { s with toks := k }) ?_ hq
    refine .of_wp fun prog w A R s hS => ?_
    rw [dec_entry_eq]
    refine wpAny_bind (wpAny_mkStr ?_ (by decide))
    refine wpAny_bind (wpAny_mkStr ?_ (by decide))
    refine wpAny_bind (wpAny_mkStr ?_ (by decide))
    exact wpAny_bind (call_function_meets KBd.kind_text KBd.plain_text KBd.entry_text (KBd.args_text _ _ _ _) (dec_text hz) (wpAny_pure ⟨_, rfl, hS _ _⟩))
end
end Mine
namespace Mine
theorem enc_type : typeOf (.builtin "str.encode") = pure (.type "method_descriptor") := by kernel_rfl
theorem method_encode {M : Model} {A : Around} {E : Value → Shared → Prop} {s : Shared} {x : PySem.Str} {t : Tok} {pl : Sem Bool} {Q : Value × List Value → Shared → Prop} (h : Q (.builtin "str.encode", [.str x t]) s) :
    wpAny M A (getMethod (.str x t) (PySem.Str.ofString "encode") pl) Q E s := by
  with_reducible exact getMethod_builtin (typeIs_str _ _ _) F.plainAttrs_str F.slot_str_encode enc_type (fun _ e => nomatch e) h
end Mine
namespace Mine
theorem call_type_bytes {prog : Program} {w : World} {A : Around} {E : Value → Shared → Prop} {s : Shared} {b : Array UInt8} {t : Tok} {Q : Value → Shared → Prop} (h : Q (.type "bytes") s) :
    wpAny (model prog w) A (call (.type "type") [.bytes b t]) Q E s := call_type_of (typeIs_bytes _ _ _) (by decide +kernel) h
end Mine
end
theorem Mine.off_RTry : True := by
  w_top off
  trivial
section
open PySem PySem.W PyProof.Rows PySem.Calls PySem.Spec
set_option Elab.async false
set_option maxRecDepth 100000
namespace Mine
section
variable {prog : Program} {w : World} {A₀ A : Around} {s : Shared} {base h₀ : Heap} {L a : Addr} {m : Str → Option Value} {cn : Str} {cs : Scope} {ccd : Value} {news : List (Addr × Obj)} {K : Frag} {p : Program} {loose : List Str} {mean : ExcName → Option Value} {mg mb : Str → Option Value}
    {R : Result → Shared → Prop} {name qual : Str} {params : Arguments} {body : List Stmt} {scope : Scope} {dV kV doc pm cdv ct oc : Value} {an od : Option Addr} {osl : Array (Option Value)} {f : Addr} {args : Args} {binds : List (Str × Value)}
theorem kts_enterX {env : Env} (B : Below A₀ base [] h₀) (F : Fr h₀ L s.heap m) (N : News h₀ L s.heap news) (hA : A.frames = some [env]) (hf : env.frame = some L) (hck : env.scope.kind = .function) :
    ∃ oL es ep, (hideAll s.heap (news.map (·.1))).get? L = some oL ∧ oL.data = .dict es ep ∧ (∀ h', h'.get? L = some oL → Heap.Ns h' L m) ∧ (∀ (sl : Array (Option Value)) h', h'.get? L = some { oL with slots := sl } → Heap.Ns h' L m) ∧
      h₀.StaysIn (hideAll s.heap (news.map (·.1))) ∧ Below A base [env] (hideAll s.heap (news.map (·.1))) := by
  have nm : ∀ b o, h₀.get? b = some o → b ∉ news.map (·.1) := fun b o e q => by
    obtain ⟨p, hp, rfl⟩ := List.mem_map.mp q
    rw [(N p hp).2.2] at e; cases e
  obtain ⟨oL, es, ep, hL, hLd, hLk, hLf⟩ := F.ns
  have nL : L ∉ news.map (·.1) := fun q => by
    obtain ⟨p, hp, e⟩ := List.mem_map.mp q
    exact (N p hp).2.1 e
  have hLg := hideAll_get (news.map (·.1)) hL nL
  obtain ⟨_, B₂, st, _⟩ := groundX (R := fun _ _ => True) B F N hA hf hck
  exact ⟨oL, es, ep, hLg, hLd, fun h' e => ⟨oL, es, ep, e, hLd, hLk, hLf⟩, fun sl h' e => ⟨_, es, ep, e, hLd, hLk, hLf⟩, st, B₂⟩
/-- entering, from the law's own level, a def that catches; the body in wpR, nothing flies out -/
theorem codeR_defS0 {env : Env} (B : Below A₀ base [] h₀) (F : Fr h₀ L s.heap m) (X₀ : K.In h₀) (N : News h₀ L s.heap news) (T : Top p loose mean mg mb h₀) (hA : A.frames = some [env]) (hf : env.frame = some L) (hck : env.scope.kind = .function)
    (ho : K.lookup f = some ⟨oc, od, .func (fnOf name qual params body scope dV kV doc pm an cdv ct), osl⟩) (hcd : codeIn K cdv qual = true) (hroom : A.depth < recursionLimit)
    (hbind : BindsTo s (fnOf name qual params body scope dV kV doc pm an cdv ct) args binds) (hloc : ∀ y ∈ binds, scope.names.lookup y.1 = some .local)
    (h : ∀ g L' h₁, Fr h₀ L g m → Fr g L' h₁ (fun y => binds.reverse.lookup y) → News g L' h₁ news → Below A base [env] g → K.In g → Top p loose mean mg mb g → KtsDicts ([env].filterMap (·.frame)) g →
      wpR (model prog w) (A.deeper (envOf qual scope L' f cdv)) (execs body (envOf qual scope L' f cdv))
        (fun fl s' => LeaveS0 ([env].filterMap (·.frame)) h₀ L m g R (match fl with | .ret v => v | _ => .none) s') (fun _ _ => False)
        { s with heap := h₁, toks := s.toks + binds.length })
    (hco : scope.isCoroutine = false) (hgen : scope.isGenerator = false) (hk : scope.kind = .function)
    (hcell : ∀ x ∈ scope.names, x.2 ≠ .cell) : codeR (model prog w) A (.call (.ref f) args) R s := by
  have X := X₀.keeps F.keep
  refine codeR_call_def (fd := fnOf name qual params body scope dV kV doc pm an cdv ct) (body := body) (binds := binds) hroom (X _ _ ho) rfl (T.nolimit.keeps F.keep) (codeRec_of X hcd) rfl hbind hcell hloc (fun h₁ hns hk₁ => ?_) hco hgen hk
  obtain ⟨oL, es, ep, hLg, hLd, hN, hNs, st, B₂⟩ := kts_enterX B F N hA hf hck
  refine wpR_mono (h _ s.heap.objs.size h₁ ⟨hN _ hLg, st, F.above⟩ ⟨hns, fun b o e => hk₁ b o (of_hideAll _ e), Nat.le_of_eq (hideAll_size _ _)⟩
    (fun p hp => ⟨hk₁ _ _ (N p hp).1, Nat.ne_of_lt (Heap.lt_size (N p hp).1), hideAll_none _ (List.mem_map_of_mem hp)⟩) B₂ (X₀.keeps st) (T.keeps st) (fun b hb => by
      have hb' : b = L := by simpa [hf, eq_comm] using hb
      rw [hb']
      exact ⟨oL, es, ep, hLg, hLd⟩)) (fun fl s' hl => ?_) fun _ _ y => y.elim
  obtain ⟨g', L', m', news', T', F', N', k⟩ := hl
  have nL₀ : h₀.get? L = none := kts_self F
  obtain ⟨sl, hs⟩ := T'.up hLg
  refine k ⟨hNs sl _ (F'.keep _ _ hs), fun b o e => F'.keep b o (T'.other b o (st b o e) (fun q => by
    have hb' : b = L := by simpa [hf, eq_comm] using q
    rw [hb', nL₀] at e
    cases e)), F.above⟩ fun p hp => ⟨(N' p hp).1, fun q => ?_, ?_⟩
  · have := (N' p hp).2.2; rw [q, hs] at this; cases this
  · cases q : h₀.get? p.1 with
    | none => rfl
    | some o =>
      obtain ⟨sl', hs'⟩ := T'.up (st _ _ q)
      have := (N' p hp).2.2
      rw [hs'] at this
      cases this
end
end Mine
end
theorem Mine.off_RTest : True := by
  w_top off
  trivial
section
open PySem PySem.W PyProof.Rows PySem.Calls
set_option Elab.async false
set_option maxRecDepth 100000
set_option maxHeartbeats 8000000
namespace Mine
section
variable {M : Model} {A : Around} {E : Value → Shared → Prop} {s : Shared} {env : Env}
theorem R_or_nil {pos : Pos} {whole : Sem Value} {Q : Bool → Shared → Prop} (h : Q false s) : wpR M A (isTrue (.BoolOp .Or [] pos) env whole) Q E s := wpR_pure (a := false) h
theorem R_or {x : Expr} {rest : List Expr} {pos : Pos} {whole : Sem Value} {Q : Bool → Shared → Prop}
    (h : wpR M A (isTrue x env (eval x env)) (fun c s' => if c then Q true s' else wpR M A (isTrue (.BoolOp .Or rest pos) env whole) Q E s') E s) :
    wpR M A (isTrue (.BoolOp .Or (x :: rest) pos) env whole) Q E s := by
  show wpR M A (do
    match BoolOp.Or, ← isTrue x env (eval x env) with
    | .And, false => pure false
    | .Or, true => pure true
    | _, _ => allTrue .Or rest env) Q E s
  refine wpR_bind (wpR_mono h (fun c s' h' => ?_) fun _ _ x => x)
  cases c with
  | false => exact h'
  | true => exact wpR_pure h'
theorem R_cmp {l r : Expr} {op : CmpOp} {pos : Pos} {whole : Sem Value} {Q : Bool → Shared → Prop}
    (h : wpR M A (eval l env) (fun a s₁ => wpAny M A (eval r env) (fun b s₂ => wpAny M A (compareOp op a b)
      (fun c s₃ => wpAny M A (truthy c) Q E s₃) E s₂) E s₁) E s)
    (hm : behindInMarks op r = false := by with_unfolding_all rfl) : wpR M A (isTrue (.Compare l [op] [r] pos) env whole) Q E s := fun Γ p hΓ h1 h2 => by
  simp only [isTrue_Compare1, markedBehindIn_of_false hm, Sem.wp_bind', Sem.wp_holding, Sem.wp_cmd_standAt, Sem.wp_operate]
  exact Sem.wp_mono M Γ _ (fun a p₁ s₁ h₁ => Sem.wp_mono M Γ _ (fun b _ s₂ h₂ => Sem.wp_mono M Γ _ (fun c p₃ s₃ h₃ => h₃ Γ p₃ hΓ)
    (fun _ _ _ h' => h') _ _ (h₂ Γ _ hΓ)) (fun _ _ _ h' => h') _ _ (h₁ Γ p₁ hΓ)) (fun _ _ _ h' => h') _ _ (h Γ p hΓ h1 h2)
end
end Mine
end
theorem Mine.off_OwnStr : True := by
  w_top off
  trivial
section
open PySem PySem.W PyProof.Rows PySem.Calls PySem.Spec
set_option maxRecDepth 100000
namespace Mine
section
variable {prog : Program} {w : World} {A : Around} {E : Value → Shared → Prop} {s : Shared} {K : Frag} {e C t : Addr} {x : Str} {tx : Tok} {h₀ : Heap} {L : Addr} {news : List (Addr × Obj)}

theorem Got.exc {h : Heap} {cls : Value} {vs : List Value} (N : News h₀ L h news) (G : Got news e t cls vs) : (∃ o ws, h.get? e = some o ∧ o.cls = cls ∧ o.data = .fields ws ∧ ws[0]? = some (.ref t)) ∧ h.TupAt t vs := by
  obtain ⟨oe, ot, ws, nt, h1, h2, hc, hd, h0, htc, htd⟩ := G
  exact ⟨⟨oe, ws, N.get h1, hc, hd, h0⟩, ⟨ot, nt, N.get h2, htc, htd⟩⟩
theorem own_args {M : Model} {items : List Value} {cls : Value} {Q : Value × List Value → Shared → Prop} (x : ∃ o ws, s.heap.get? e = some o ∧ o.cls = cls ∧ o.data = .fields ws ∧ ws[0]? = some (.ref t)) (ht : s.heap.TupAt t items) (hq : Q (.ref t, items) s) :
    wpAny M A (Builtin.BaseException.bexcArgs (.ref e)) Q E s := by
  obtain ⟨o, vs, ho, _, hd, h0⟩ := x
  obtain ⟨ot, k, hto, _, htd⟩ := ht
  unfold Builtin.BaseException.bexcArgs
  refine wpAny_bind (wpAny_field ho hd h0 (wpAny_bind (wpAny_seqItems hto htd ?_)))
  have : items.toArray.toList = items := by simp
  show wpAny M A (pure (Value.ref t, items.toArray.toList)) Q E s
  rw [this]; exact wpAny_pure hq
theorem own_str_entry {cls : Value} {Q : Fin → Shared → Prop} (y : ∃ o ws, s.heap.get? e = some o ∧ o.cls = cls ∧ o.data = .fields ws ∧ ws[0]? = some (.ref t)) (ht : s.heap.TupAt t [.str x tx]) (hq : Q (.done (.ret (.str x tx))) s) :
    wpAny (model prog w) A (Builtin.«BaseException.__str__» ⟨[.ref e], []⟩) Q E s := by
  unfold Builtin.«BaseException.__str__»
  repeat (first | with_reducible refine own_args y ht ?_ | wp_step)
  exact hq
theorem own_str_call {Q : Value → Shared → Prop} (y : ∃ o ws, s.heap.get? e = some o ∧ o.cls = .ref C ∧ o.data = .fields ws ∧ ws[0]? = some (.ref t)) (ht : s.heap.TupAt t [.str x tx])
    (X : K.In s.heap) (hm : mroIn K C (.type "BaseException") = some true) (hq : Q (.str x tx) s) : wpAny (model prog w) A (call (.builtin "BaseException.__str__") [.ref e]) Q E s := by
  have y' := y
  obtain ⟨o, ws, ho, hc, _, _⟩ := y'
  have LT : Looks (model prog w) s.heap (typeOf (.ref e)) (.ref C) := hc ▸ (Looks.ld ho).andThen .now
  refine wpAny_call (codeAny_call_builtin PySem.F.excStr_Exception.str.plain PySem.F.entry_bexc_str (check_slot (i := "BaseException.__str__") (owner := "BaseException") (n := "__str__") (by decide +kernel) (by decide +kernel) (LT.andThen (looks_mroIn X hm)) (PySem.F.args_bexc_str _) ?_))
  exact own_str_entry y ht hq
theorem own_special {M : Model} {name : Str} {id : String} {args : List Value} {ox : Obj} {Q : Option Value → Shared → Prop} (X : K.In s.heap) (ho : s.heap.get? e = some ox) (hc : ox.cls = .ref C) (hs : findIn K (.ref C) name = some (some (.builtin id)))
    (hb : ∀ self, bindSpecial (.builtin id) self = pure (.builtin id, [self])) (h : wpAny M A (call (.builtin id) (.ref e :: args)) (fun v => Q (some v)) E s) : wpAny M A (callSpecial? (.ref e) name args) Q E s := by
  have LT : Looks M s.heap (typeOf (.ref e)) (.ref C) := hc ▸ (Looks.ld ho).andThen .now
  exact wpAny_bind (wpAny_bind (LT.here ((looks_findIn X hs).here (wpAny_holding (wpAny_bind ((Looks.of_pure (hb _)).here (wpAny_bind (wpAny_mono h (fun _ _ z => wpAny_pure z) fun _ _ z => z))))))))
open Builtin Builtin.Str in
/-- str(e) of an object of an own class under BaseException that holds one text. -/
theorem own_str {Q : Value → Shared → Prop} (hu : A.in1.in1.units < cLine) (X : K.In s.heap) (N : News h₀ L s.heap news) (G : Got news e t (.ref C) [.str x tx]) (hs : findIn K (.ref C) "__str__" = some (some (.builtin "BaseException.__str__")))
    (hm : mroIn K C (.type "BaseException") = some true) (hq : Q (.str x tx) s) : wpAny (model prog w) A (call (.type "str") [.ref e]) Q E s := by
  obtain ⟨y, ht⟩ := Got.exc N G
  have y' := y
  obtain ⟨o, ws, ho, hc, _, _⟩ := y'
  refine callType_codes (T := "str") (Bi := Builtin.«object.__init__») (Q₁ := fun r s₁ => ∃ y u, r = .str y u ∧ Q r s₁) PySem.F.called_str (PySem.F.typeCall_str_1 _) PySem.F.entry_object_init ?_ ?_
  · refine codeAny_of_tree ?_
    show wpAny _ A.in1.in1 (do checkBuiltinCall "str.__new__" ⟨[.type "str", .ref e], []⟩; again (.builtin "str.__new__" ⟨[.type "str", .ref e], []⟩)) _ _ s
    refine wpAny_bind (wpAny_of_eq (PySem.F.newCall_str_1 _) (wpAny_pure ⟨plainId_quiet (by decide +kernel) _, codeAny_builtin PySem.F.entry_str_new ?_⟩))
    rw [Around.under_plainId (by decide +kernel) _]
    rw [str_new_tree]
    refine wpAny_bind (wpAny_pure ?_)
    refine wpAny_bind (wpAny_of_eq isSubtype_str_str ?_)
    have key : wpAny (model prog w) A.in1.in1 (PySem.Builtin.Str.strOf (.ref e)) (fun r s₁ => ∃ y u, r = .str y u ∧ Q r s₁) E s := by
      unfold PySem.Builtin.Str.strOf
      rw [show isExactStr (.ref e) = false from rfl]
      refine wpAny_bind (m := cRoomFor _ _) (wpAny_cRoomFor hu ?_)
      refine wpAny_bind (m := callSpecial? (.ref e) (Str.ofString "__str__")) (own_special X ho hc hs PySem.F.excStr_Exception.str.bind (own_str_call y ht X hm ?_))
      exact wpAny_pure ⟨_, _, rfl, hq⟩
    exact wpAny_bind (wpAny_mono key (fun r s₁ hr => wpAny_pure hr) fun _ _ y => y)
  · rintro obj s₁ ⟨y, u, rfl, hq⟩
    exact ⟨typeIs_str _ _ _, PySem.F.args_object_init_2 _ _, object_init_meets PySem.F.called_str.init.lookup PySem.F.called_str.made (by decide) prog w A.in1 _ s₁ ⟨typeIs_str _ _ _, rfl, hq⟩⟩
end
end Mine
end
theorem Mine.off_Held : True := by
  w_top off
  trivial
section
open PySem PySem.W PyProof.Rows
set_option Elab.async false
set_option maxRecDepth 100000
namespace Mine
/- what a value holds, read off the ledger -/
mutual
inductive Held (news : List (Addr × Obj)) : Value → PyData → Prop
  | int (i : Int) (t : Tok) : Held news (.int i t) (.int i)
  | str (x : Str) (t : Tok) : Held news (.str x t) (.str x)
  | list {a : Addr} {o : Obj} {vs : Array Value} {n : Nat} {ds : List PyData} (hm : (a, o) ∈ news) (hc : o.cls = .type "list") (hd : o.data = .seq vs n) (h : HeldAll news vs.toList ds) : Held news (.ref a) (.list ds)
  | tuple {a : Addr} {o : Obj} {vs : Array Value} {n : Nat} {ds : List PyData} (hm : (a, o) ∈ news) (hc : o.cls = .type "tuple") (hd : o.data = .seq vs n) (h : HeldAll news vs.toList ds) : Held news (.ref a) (.tuple ds)
inductive HeldAll (news : List (Addr × Obj)) : List Value → List PyData → Prop
  | nil : HeldAll news [] []
  | cons {v : Value} {d : PyData} {vs : List Value} {ds : List PyData} (h : Held news v d) (r : HeldAll news vs ds) : HeldAll news (v :: vs) (d :: ds)
end
mutual
theorem Held.mono {n n' : List (Addr × Obj)} (k : ∀ p ∈ n, p ∈ n') : ∀ {v : Value} {d : PyData}, Held n v d → Held n' v d
  | _, _, .int i t => .int i t
  | _, _, .str x t => .str x t
  | _, _, .list hm hc hd h => .list (k _ hm) hc hd (HeldAll.mono k h)
  | _, _, .tuple hm hc hd h => .tuple (k _ hm) hc hd (HeldAll.mono k h)
theorem HeldAll.mono {n n' : List (Addr × Obj)} (k : ∀ p ∈ n, p ∈ n') : ∀ {v : List Value} {d : List PyData}, HeldAll n v d → HeldAll n' v d
  | _, _, .nil => .nil
  | _, _, .cons h r => .cons (Held.mono k h) (HeldAll.mono k r)
end
mutual
theorem Held.reads {news : List (Addr × Obj)} {h : Heap} (N : ∀ p ∈ news, h.get? p.1 = some p.2) : ∀ {v : Value} {d : PyData}, Held news v d → ∃ as, Reads h v d as
  | _, _, .int i t => ⟨_, .int i t⟩
  | _, _, .str x t => ⟨_, .str x t⟩
  | _, _, .list hm hc hd q => let ⟨_, r⟩ := HeldAll.reads N q; ⟨_, .list (N _ hm) hc hd r⟩
  | _, _, .tuple hm hc hd q => let ⟨_, r⟩ := HeldAll.reads N q; ⟨_, .tuple (N _ hm) hc hd r⟩
theorem HeldAll.reads {news : List (Addr × Obj)} {h : Heap} (N : ∀ p ∈ news, h.get? p.1 = some p.2) : ∀ {v : List Value} {d : List PyData}, HeldAll news v d → ∃ as, ReadsAll h v d as
  | _, _, .nil => ⟨_, .nil⟩
  | _, _, .cons q r => let ⟨_, r1⟩ := Held.reads N q; let ⟨_, r2⟩ := HeldAll.reads N r; ⟨_, .cons r1 r2⟩
end
theorem HeldAll.append {news : List (Addr × Obj)} : ∀ {v v' : List Value} {d d' : List PyData}, HeldAll news v d → HeldAll news v' d' → HeldAll news (v ++ v') (d ++ d')
  | _, _, _, _, .nil, h => h
  | _, _, _, _, .cons q r, h => .cons q (HeldAll.append r h)
theorem HeldAll.length {news : List (Addr × Obj)} : ∀ {v : List Value} {d : List PyData}, HeldAll news v d → v.length = d.length
  | _, _, .nil => rfl
  | _, _, .cons _ r => congrArg (· + 1) (HeldAll.length r)
theorem HeldAll.take {news : List (Addr × Obj)} : ∀ (k : Nat) {v : List Value} {d : List PyData}, HeldAll news v d → HeldAll news (v.take k) (d.take k)
  | 0, _, _, _ => by simp only [List.take_zero]; exact .nil
  | _ + 1, _, _, .nil => .nil
  | k + 1, _, _, .cons h r => .cons h (HeldAll.take k r)
theorem HeldAll.drop {news : List (Addr × Obj)} : ∀ (k : Nat) {v : List Value} {d : List PyData}, HeldAll news v d → HeldAll news (v.drop k) (d.drop k)
  | 0, _, _, h => h
  | _ + 1, _, _, .nil => .nil
  | k + 1, _, _, .cons _ r => HeldAll.drop k r
theorem HeldAll.one {news : List (Addr × Obj)} {v : Value} {d : PyData} (h : Held news v d) : HeldAll news [v] [d] := .cons h .nil
theorem HeldAll.two {news : List (Addr × Obj)} {v v' : Value} {d d' : PyData} (h : Held news v d) (h' : Held news v' d') : HeldAll news [v, v'] [d, d'] := .cons h (.cons h' .nil)
theorem allLt_mem {d : Addr} : ∀ {l : List (Addr × Obj)}, AllLt d l → ∀ p ∈ l, p.1 < d
  | [], _, _, hp => nomatch hp
  | _ :: _, h, p, hp => by
    rcases List.mem_cons.mp hp with rfl | hp
    · exact h.1
    · exact allLt_mem h.2 p hp
theorem HeldAll.snoc {news : List (Addr × Obj)} {vs : List Value} {ds : List PyData} {v : Value} {d : PyData} (r : HeldAll news vs ds) (h : Held news v d) : HeldAll news (vs ++ [v]) (ds ++ [d]) := r.append (.one h)
end Mine
end
theorem Mine.off_C_heard2 : True := by
  w_top off
  trivial
section
open PySem PySem.W PyProof.Rows PySem.Calls
set_option Elab.async false
set_option maxRecDepth 100000
set_option maxHeartbeats 8000000
namespace Mine
section
variable {M : Model} {A : Around} {E : Value → Shared → Prop} {s : Shared} {env : Env}
theorem R_Method {o : Expr} {name : Str} {apos pos : Pos} {args : List Expr} {pl : Sem Bool} {Q : Value → Shared → Prop}
    (h : wpR M A (eval o env) (fun ov s₁ => wpAny M A (getMethod ov name pl) (fun fx s₂ => wpAny M A (callWith pos fx.1 fx.2 (backTo pos (starEach args env)) []) Q E s₂) E s₁) E s)
    (he : eval (.Call (.Attribute o name apos) args [] pos) env = (do
      let ov ← eval o env
      standAt apos.atName
      let (f, first) ← holding [ov] (getMethod ov name pl)
      callWith pos f first (backTo pos (starEach args env)) []) := by rfl) :
    wpR M A (eval (.Call (.Attribute o name apos) args [] pos) env) Q E s := by
  rw [he]
  refine wpR_bind (wpR_mono h (fun ov s₁ h₁ => wpR_of_any (wpAny_bind (wpAny_standAt (wpAny_bind (wpAny_holding (wpAny_mono h₁ (fun fx s₂ h₂ => ?_) fun _ _ x => x)))))) fun _ _ x => x)
  exact h₂
end
theorem octs_size (x : Str) : (octs x).size = x.length := by simp [octs, Str.length]
def turnW (x : Str) (k : Nat) : Str := chrs (swp (octs x) k)
theorem heard_bad257 (w : World) (mean : ExcName → Option Value) (mg mb : Str → Option Value) (x : Str) (tx : Tok) (wd : Int) (tw : Tok)
   (h256 : ∀ c ∈ x.cps.toList, c < 256) (hne : 0 < x.length) (hsz : x.length ≤ 1000) (h0 : 0 < wd) (hwd : wd ≤ 1000) (hdvd : wd.toNat ∣ x.length)
   (hy : (Txt.slice (turnW x wd.toNat) none (some 3) != Str.ofString "257") = true) 
   (news : List (Addr × Obj)) (env : Env) (h₀ : Heap) (L : Addr) (m : Str → Option Value) (s : Shared) (Q : Value → Shared → Prop)
   : ∀ (hf : env.frame = some L) (hke : env.scope.kind = .function) (B : Below callerA h₀ [] h₀) (F : Fr h₀ L s.heap m) (X : (hd2.heap_39 w.params).In h₀) (N : News h₀ L s.heap news) (T : Top hd2.view_39 (looseW hd2.view_39 []) mean mg mb h₀) 
   (hret : ∀ (r : Value) (nw : List (Addr × Obj)) (h' : Heap) (tk' : Nat), Fr h₀ L h' m → News h₀ L h' (nw ++ news) → (∀ p ∈ nw, ∀ q ∈ news, p.1 ≠ q.1) → Held nw r (.list [.str (turnW x wd.toNat), .list [.str (Str.ofString "refused"), .str (turnW x wd.toNat)]]) → Q r { s with heap := h', toks := tk' }),
   wpR (model PySem.Challenge.rw_pe0048_02.row.prog w) (callerA.deeper env) (call (.ref 89) [.str x tx, .int wd tw, .bool false]) Q (fun _ _ => False) s := by
  k_fill
  intro hf hke B F X N T hret
  refine wpR_call ?_
  k_dflt (refine' codeR_defS0 (env := env) (binds := [(Str.ofString "text", .str x tx), (Str.ofString "width", .int wd tw), (Str.ofString "port", .bool false)]) B F X N T rfl hf hke ?k6 ?k7 ?k8 ?k9 ?kB ?_ ?c2 ?c3 ?c4 ?c5; (case k6 => k_is); (case k7 => k_is); (case k8 => k_room); (case k9 => exact BindsTo.of_eq rfl); (case c5 => decide); (case kB => exact locs rfl); (case c2 => exact rfl); (case c3 => exact rfl); (case c4 => exact rfl); k_whole)
  intro g' L' h' FG' F' N' B' X' T' D'
  refine R_stmtR (R_assign (R_Method (R_Call ?_)))
  k_steps
  refine R_args_fn (R_args_cons (wpR_of_any ?_))
  k_steps
  refine method_encode ?_
  k_steps
  refine encode_K h256 hne (by omega) ?_
  intro t1 k1
  dsimp only
  refine R_args_cons (wpR_of_any ?_)
  k_steps
  refine R_args_nil ⟨isFn_K X' (by assumption) (by k_is), ?_⟩
  have hos := octs_size x
  refine swap_d w mean mg mb (octs x) wd t1 _ h0 (by rw [hos]; exact hdvd) (by omega) (by omega) news _ _ _ _ _ _ _ _ _ _ _ _ _ _ _ _ _ B' (by assumption) X' (by assumption) T' rfl (Nat.le_of_ble_eq_true rfl) (Nat.le_of_ble_eq_true rfl) ?_
  intro t2 h2 tk2 F2 N2
  have hsw := swp_size (octs x) wd.toNat
  have hos2 : (swp (octs x) wd.toNat).size = x.length := hsw.trans hos
  unfold turnW at hy hret
  generalize swp (octs x) wd.toNat = b2 at hret hy hos2 ⊢
  dsimp only
  k_steps
  refine decode_K (by omega) (by omega) ?_
  intro t4 k4
  have hyb : (chrs b2).length = b2.size := by simp [chrs, Str.length]
  generalize chrs b2 = y at hret hy hyb ⊢
  have hyl : y.length ≤ 1000 := by have : y.length = b2.size := hyb; omega
  dsimp only
  k_steps
  refine R_stmt ?_
  k_steps
  rename Got _ _ _ _ _ => GG
  k_dflt (refine' own_str (K := hd2.heap_39 w.params) ?u ?X ?N GG ?f ?g ?_; (case N => assumption); (case u => exact Nat.le_of_ble_eq_true rfl); (case X => k_in); (case f => k_is); (case g => k_is); k_whole)
  k_steps
  with_reducible rename Fr h₀ L _ m => kF9
  with_reducible rename News h₀ L _ (_ :: _ :: news) => kN9
  with_reducible rename ∀ p ∈ news, p.1 < _ => l8
  with_reducible rename _ ∧ AllLt _ news => l9
  exact hret _ [(_, _), (_, _)] _ _ kF9 kN9 (fun p hp q hq => by
    rcases List.mem_cons.mp hp with rfl | hp
    · exact Nat.ne_of_gt (allLt_mem l9.2 q hq)
    · rw [List.mem_singleton.mp hp]; exact Nat.ne_of_gt (l8 q hq)) (.list (List.Mem.head _) rfl rfl (.cons (.str _ _) (.cons (.list (List.Mem.tail _ (List.Mem.head _)) rfl rfl (.cons (.str _ _) (.cons (.str _ _) .nil))) .nil)))
end Mine
end
theorem Mine.off_RComp : True := by
  w_top off
  trivial
section
open PySem PySem.W PyProof.Rows PySem.Calls PySem.Spec PyProof.Rows.LCg PyProof.Rows.LCt
set_option Elab.async false
set_option maxRecDepth 100000
namespace Mine
section
variable {M : Model} {A : Around} {E : Value → Shared → Prop} {s : Shared} {env : Env}
/-- a comprehension whose first iterable this layer walks -/
theorem R_comp {e : Expr} {scope : Scope} {pos : Pos} {newAcc first : Sem Value} {b : Bool} {use : Option (Value → Sem Unit)} {Q : Value → Shared → Prop}
    (h : wpR M A first (fun x s₁ => wpR M A (comprehension e scope env pos newAcc b (pure x) use) Q E s₁) E s) : wpR M A (comprehension e scope env pos newAcc b first use) Q E s := by
  unfold comprehension at h ⊢
  exact wpR_bind h
end
section
variable {prog : Program} {w : World} {A : Around} {E : Value → Shared → Prop} {s : Shared} {h₀ : Heap} {L : Addr} {m : Str → Option Value} {env : Env}
theorem ListComp_TR {ct elt iter : Expr} {x : Str} {px : Pos} {scope : Scope} {cl : List (Str × Addr)} {pos : Pos} {Q : Value → Shared → Prop} (F₀ : Fr h₀ L s.heap m)
    (hclos : closureFor scope env = pure cl) (hcell : ∀ y ∈ scope.names, y.2 ≠ .cell) (hkind : scope.kind = .function)
    (hnames : ∀ y ∈ scope.names, y.2 = .local → scope.names.lookup y.1 = some .local) (hx : scope.names.lookup x = some .local)
    (h : wpR (model prog w) A (eval iter env) (SrcLT prog w A h₀ L m env ct elt x scope cl (fun s₂ => FinE h₀ L m s₂ Q)) E s)
    (hs : ∀ x, foldedSetIterable iter env x = pure x := by intro _; rfl) :
    wpR (model prog w) A (eval (.ListComp elt [⟨.Name x px, iter, [ct], 0⟩] scope pos) env) Q E s := by
  rw [eval_ListComp]
  refine R_comp (wpR_mono h (fun xv s₁ h₁ => wpR_of_any ?_) fun _ _ e => e)
  refine wpAny_comprehension_free (use := none) rfl hs hclos hkind hnames (wpAny_pure ?_)
  obtain ⟨ax, its, news, rfl, hh, F, N, S, hsz, R⟩ := h₁
  have hl := S.list F.keep N
  have hlt : ax < s₁.heap.objs.size := by obtain ⟨_, e, _⟩ := hl; exact Heap.lt_size e
  refine wpAny_pyIter_list hl ?_
  have up : ∀ b o, s₁.heap.get? b = some o → (s₁.heap.push { cls := .type "list_iterator", data := .fields #[.ref ax, .int 0 0] }).get? b = some o := fun b o e => Heap.get?_push_of_some _ e
  refine block_T (Walks.list hh s₁.heap.objs.size ax (Nat.ne_of_lt hlt) its) hsz (fun i h st => by obtain ⟨o, e, _⟩ := st.1; exact ⟨o, e⟩) list_st hcell hkind hx ⟨⟨_, Heap.get?_push_size _ rfl, rfl, rfl⟩, hl.push _⟩ (fun b hb => ?_)
    (F.keeps up) (N.grown up) (Nat.ne_of_lt F.ns.lt) (next_is_new F) (fun p hp => Nat.ne_of_lt (Heap.lt_size (N p hp).1)) S (R _ ⟨_, rfl⟩) ?_
  · show b < (s₁.heap.push _).objs.size
    rw [Heap.size_push]
    rcases List.mem_cons.mp hb with rfl | hb
    · exact Nat.lt_succ_self _
    · rw [List.mem_singleton.mp hb]; exact Nat.lt_succ_of_lt hlt
  · intro D C h tk m' ys news' F' N' o1 hn hC₀ hD₀ hCL hDL hCD offC fin
    refine ⟨m', hn, fun h'' hs'' => fin D h'' tk (F'.change hs'' hCL hC₀) (fun p hp => ?_) o1⟩
    refine ⟨hs''.extBut _ _ ?_ (N' p hp).1, (N' p hp).2⟩
    rcases List.mem_cons.mp hp with rfl | hp
    · exact Ne.symm hCD
    · exact offC p hp
theorem srcLT_led {ct elt : Expr} {x : Str} {scope : Scope} {cl : List (Str × Addr)} {Fin : Shared → List Value → List (Addr × Obj) → Prop} {ax : Addr} {its : Array Value} {k n : Nat} {news : List (Addr × Obj)} {s₁ : Shared}
    (hh : A.handled = none) (F : Fr h₀ L s₁.heap m) (N : News h₀ L s₁.heap news) (hm : (ax, ({ cls := .type "list", data := .seq its k } : Obj)) ∈ news) (hn : its.size = n) (hsz : n ≤ sizeLine)
    (h : ∀ g, CompRestT prog w A h₀ L m env ct elt x scope cl { s₁ with heap := g } (SrcAt h₀ ax its) (fun i v => its[i]? = some v) (Fin { s₁ with heap := g }) n 0 [] news) :
    SrcLT prog w A h₀ L m env ct elt x scope cl Fin (.ref ax) s₁ := ⟨ax, its, news, rfl, hh, F, N, .inr ⟨_, hm, rfl, _, rfl⟩, hn ▸ hsz, fun _ ⟨g, e⟩ => e ▸ hn ▸ h g⟩
end
end Mine
end
theorem Mine.off_StepComp : True := by
  w_top off
  trivial
section
open PySem PySem.W PyProof.Rows PySem.Calls PySem.Spec PyProof.Rows.LCg
set_option Elab.async false
set_option maxRecDepth 100000
namespace Mine
section
variable {prog : Program} {w : World} {A : Around} {E : Value → Shared → Prop} {s : Shared} {h₀ : Heap} {L : Addr} {m : Str → Option Value} {env : Env}
/-- a list comprehension over a range with any step -/
theorem ListComp_step {elt iter : Expr} {x : Str} {px : Pos} {scope : Scope} {cl : List (Str × Addr)} {pos : Pos} {Q : Value → Shared → Prop} (F₀ : Fr h₀ L s.heap m)
    (hclos : closureFor scope env = pure cl) (hcell : ∀ y ∈ scope.names, y.2 ≠ .cell) (hkind : scope.kind = .function)
    (hnames : ∀ y ∈ scope.names, y.2 = .local → scope.names.lookup y.1 = some .local) (hx : scope.names.lookup x = some .local)
    (h : wpAny (model prog w) A (eval iter env) (fun xv s₁ => ∃ r a b c t u v n news, xv = .ref r ∧ A.handled = none ∧ Fr h₀ L s₁.heap m ∧ News h₀ L s₁.heap news ∧ IsRange s₁.heap r a b c t u v ∧ Builtin.Range.small a b c = true ∧
      Builtin.Range.rangeSize a b c = ((n : Nat) : Int) ∧ n ≤ sizeLine ∧ ∀ g, CompRest prog w A h₀ L m env elt x scope cl { s₁ with heap := g } (fun _ => True) (fun i v => ∃ t, v = .int (a + (i : Int) * c) t) (FinE h₀ L m { s₁ with heap := g } Q) n 0 [] news) E s)
    (hs : ∀ x, foldedSetIterable iter env x = pure x := by intro _; rfl) :
    wpAny (model prog w) A (eval (.ListComp elt [⟨.Name x px, iter, [], 0⟩] scope pos) env) Q E s := by
  rw [eval_ListComp]
  refine wpAny_comprehension_free (use := none) rfl hs hclos hkind hnames (wpAny_mono h (fun xv s₁ h₁ => ?_) fun _ _ e => e)
  obtain ⟨r, a, b, c, t, u, v, n, news, rfl, hh, F, N, hr, hsm, hn, hsz, R⟩ := h₁
  refine wpAny_pyIter_range hr hsm ?_
  refine block_U (Walks.range hh s₁.heap.objs.size a c n) hsz (fun i h st => ⟨_, st⟩) (fun i h h' o nw st e e' _ _ _ => by
    have st' : h.get? _ = some _ := st
    show h'.get? _ = some _
    rw [e', ← e]; exact st') hcell hkind hx (by show IsRangeIter _ _ _ _ _; rw [hn]; simpa using Heap.get?_push_size _ rfl) (fun b hb => ?_)
    (F.keeps fun _ _ e => Heap.get?_push_of_some _ e) (N.grown fun _ _ e => Heap.get?_push_of_some _ e) (Nat.ne_of_lt F.ns.lt) (next_is_new F) (fun p hp => Nat.ne_of_lt (Heap.lt_size (N p hp).1)) trivial (R _) ?_
  · rw [List.mem_singleton.mp hb]
    show s₁.heap.objs.size < (s₁.heap.push _).objs.size
    rw [Heap.size_push]; exact Nat.lt_succ_self _
  · intro D C h tk m' ys news' F' N' o1 hn hC₀ hD₀ hCL hDL hCD offC fin
    refine ⟨m', hn, fun h'' hs'' => fin D h'' tk (F'.change hs'' hCL hC₀) (fun p hp => ?_) o1⟩
    refine ⟨hs''.extBut _ _ ?_ (N' p hp).1, (N' p hp).2⟩
    rcases List.mem_cons.mp hp with rfl | hp
    · exact Ne.symm hCD
    · exact offC p hp
end
end Mine
end
theorem Mine.off_B_round : True := by
  w_top off
  trivial
section
open PySem PySem.W PyProof.Rows PySem.Calls
set_option Elab.async false
set_option maxRecDepth 100000
set_option maxHeartbeats 8000000
namespace Mine
/-- the piece of the text at k, turned -/
def pieceAt (x : Str) (wd : Int) (k : Int) : Str := rev (Txt.slice x (some k) (some (k + wd)))
def roundKs (x : Str) (wd : Nat) : List Int := (List.range (x.length / wd)).map fun i => 0 + ((i : Nat) : Int) * ((wd : Nat) : Int)
def roundOf (x : Str) (wd : Nat) : Str := Txt.join (Str.ofString "") ((roundKs x wd).map (pieceAt x wd))
theorem round_d (w : World) (mean : ExcName → Option Value) (mg mb : Str → Option Value) (news : List (Addr × Obj)) (x : Str) (wd : Nat) (tx tw : Tok) (hw : 0 < wd) (hdvd : wd ∣ x.length) (hx : x.length ≤ 1000) (hwd : wd ≤ 1000) :
   CbClaim PySem.Challenge.rw_pe0048_02.row.prog w (hd2.heap_39 w.params) hd2.view_39 (looseW hd2.view_39 []) mean mg mb 82 news [] True [.str x tx, .int wd tw] (fun t => .str (roundOf x wd) t) := by
  k_fill
  unfold CbClaim
  dsimp only [CbLists, CbRet]
  intro dp un gd cn cs a ccd cl outer A₀ base h₀ L m s Q E B F X N T hcs _ hdp hun hret
  refine wpAny_call ?_
  k_dflt (refine' code_defC (binds := [(Str.ofString "text", .str x tx), (Str.ofString "width", .int wd tw)]) B F X N T rfl rfl hcs ?k6 ?k7 ?k8 ?k9 ?kB ?kD ?_ ?c2 ?c3 ?c4; (case k6 => k_is); (case k7 => k_is); (case k8 => ktr_room); (case k9 => exact BindsTo.of_eq rfl); (case kB => exact rfl); (case kD => decide +kernel); (case c2 => exact rfl); (case c3 => exact rfl); (case c4 => exact rfl); k_whole)
  intro g' L' h' tk' cells' FG' F' N' Y' B' X' T' l1
  clear F N X T B
  (try k_lt l1); k_cells Y'; (try simp only [List.cons_append, List.nil_append] at N'); (try dsimp only)
  iterate 7 (first | walk1 | (dsimp only; walk1))
  k_dflt (refine ListComp_step (F₀ := by k_asm) (by with_unfolding_all rfl) (by decide) (by rfl) (by decide) (by rfl) ?_)
  iterate 17 (first | walk1 | (dsimp only; walk1))
  with_reducible rename IsRange _ _ _ _ _ _ _ _ => R9
  with_reducible rename Fr g' L' _ _ => F9
  with_reducible rename News g' L' _ _ => N9
  have hq : x.length / wd * wd = x.length := Nat.div_mul_cancel hdvd
  have hqi : (x.length : Int) = ((x.length / wd : Nat) : Int) * (wd : Int) := by rw [← Int.natCast_mul, hq]
  have hqle : x.length / wd ≤ x.length := Nat.div_le_self _ _
  refine ⟨_, 0, x.length, wd, _, _, _, x.length / wd, _, rfl, rfl, F9, N9, R9, small_of (by omega) (by omega) (by omega) (by omega) (by omega) (by omega), by rw [hqi]; exact rangeSize_block (by omega), by rw [sizeLine_eq]; omega, fun g => ?_⟩
  clear R9 F9 N9
  refine kct_rest (ks := roundKs x wd) (pieceAt x wd) (by simp [roundKs]) (fun i v hi hv => ?_) ?_ ?_
  · obtain ⟨t, rfl⟩ := hv
    exact ⟨_, t, by simp [roundKs, hi], rfl⟩
  · intro k t I oI C oC D m₂ ys h tk E' hk hC hx2 F N off ne mk
    simp only [LCg.Off3] at off
    obtain ⟨i, hi, rfl⟩ := List.mem_map.mp hk
    rw [List.mem_range] at hi
    have hik : 0 + (i : Int) * (wd : Int) = ((i * wd : Nat) : Int) := by rw [Int.natCast_mul, Int.zero_add]
    have hib : i * wd + wd ≤ x.length := by
      have : (i + 1) * wd ≤ x.length / wd * wd := Nat.mul_le_mul_right _ hi
      rw [hq, Nat.add_mul] at this
      omega
    rw [hik] at hx2 ⊢
    clear hik hk
    have hpl := slice_ij (x := x) (j := i * wd) (k := i * wd + wd) (by omega) (by rw [Array.length_toList]; exact hib)
    repeat (first | walk1 | (dsimp only; walk1))
    refine LCg.CompEnd.intro (by assumption) (by assumption) _ (fun _ h => h) (by exact off) True.intro ?_
    exact kct_el (by unfold pieceAt; rw [sliceBy_rev]) rfl rfl
  · unfold KPfDone
    intro ys hc hn
    unfold LCg.FinE
    intro D h9 tk9 F8 N8 o9
    dsimp only
    iterate 1 (first | walk1 | (dsimp only; walk1))
    have hle : ∀ k : Int, (pieceAt x wd k).length ≤ 1000 := fun k => by
      unfold pieceAt
      rw [rev_length]
      exact Nat.le_trans (PyProof.Txt.length_slice_le _ _ _) hx
    have hsum := sumLen_le_of_bound (pieceAt x wd) 1000 (roundKs x wd) fun k _ => hle k
    refine join_list (ys := (roundKs x wd).map (pieceAt x wd)) (News.isList N8 (List.Mem.head _)) (StrsAre.of_carried (by rw [List.map_map]; exact hc)) ?_ ?_
    · have e0 : (Str.ofString "").length = 0 := by decide
      rw [e0, Nat.mul_zero, Nat.add_zero]
      refine Nat.le_trans hsum ?_
      rw [hn]
      omega
    intro t' k'
    exact leaveK_ (L' := L') (by assumption) (by assumption) fun F7 N7 => hret _ _ _ F7 fun q hq => N7 q (List.mem_cons_of_mem _ (List.mem_cons_of_mem _ (List.mem_cons_of_mem _ hq)))
end Mine
end
theorem Mine.off_Cut : True := by
  w_top off
  trivial
section
open PySem PySem.W PyProof.Rows
set_option Elab.async false
set_option maxRecDepth 100000
namespace Mine
theorem at_iff (x : Str) (c k : Nat) : StrLaws.At x ⟨#[c]⟩ x.length k ↔ x.cps.toList[k]? = some c := StrLaws.subAt_one x c k
theorem find_first {x : Str} {c : Nat} {p r : List Nat} (hx : x.cps.toList = p ++ c :: r) (hp : c ∉ p) : Txt.find x ⟨#[c]⟩ = (p.length : Int) := by
  have here : x.cps.toList[p.length]? = some c := by rw [hx]; simp
  rcases PyProof.Rows.find_whole x ⟨#[c]⟩ with ⟨_, h⟩ | ⟨i, h1, h2, h3⟩
  · exact absurd ((at_iff x c p.length).mpr here) (h _)
  · rw [h1]
    have h2' := (at_iff x c i).mp h2
    have hge : ¬ i < p.length := fun hlt => by
      rw [hx, List.getElem?_append_left hlt] at h2'
      exact hp (List.mem_of_getElem? h2')
    have hle : ¬ p.length < i := fun hlt => h3 _ hlt ((at_iff x c p.length).mpr here)
    congr 1
    omega
theorem find3_first {x : Str} {c : Nat} {p q r : List Nat} (hx : x.cps.toList = p ++ (q ++ c :: r)) (hq : c ∉ q) : Txt.find3 x ⟨#[c]⟩ (p.length : Int) = ((p.length + q.length : Nat) : Int) := by
  have hlen : x.length = p.length + (q.length + (r.length + 1)) := by
    have := congrArg List.length hx
    simpa [Str.length] using this
  have here : x.cps.toList[p.length + q.length]? = some c := by
    rw [hx, List.getElem?_append_right (by omega)]; simp
  have ef : fromIndex x.length (p.length : Int) = p.length := by
    unfold fromIndex
    rw [if_neg (by omega)]
    omega
  rcases StrLaws.find3_spec x c (p.length : Int) with ⟨_, h⟩ | ⟨k, h1, h2, h3, h4, h5⟩
  · exact absurd (StrLaws.getD_of_getElem? here) (h _ (by rw [ef]; omega) (by omega))
  · rw [h1]
    rw [ef] at h2 h5
    have hk := StrLaws.getElem?_of_getD h3 h4
    have hge : ¬ k < p.length + q.length := fun hlt => by
      rw [hx, List.getElem?_append_right h2, List.getElem?_append_left (by omega)] at hk
      exact hq (List.mem_of_getElem? hk)
    have hle : ¬ p.length + q.length < k := fun hlt => h5 _ (by omega) hlt (StrLaws.getD_of_getElem? here)
    congr 1
    omega
/-- a list cut at each c -/
def cut (c : Nat) : List Nat → List (List Nat)
  | [] => [[]]
  | a :: l => if a = c then [] :: cut c l else match cut c l with
    | [] => [[a]]
    | p :: r => (a :: p) :: r
theorem cut_at (c : Nat) : ∀ (p l : List Nat), c ∉ p → cut c (p ++ c :: l) = p :: cut c l
  | [], l, _ => by simp [cut]
  | a :: p, l, h => by
    have ha : a ≠ c := fun e => h (e ▸ List.mem_cons_self)
    rw [List.cons_append, cut, if_neg ha, cut_at c p l fun hm => h (List.mem_cons_of_mem _ hm)]
theorem cut_free (c : Nat) : ∀ (p : List Nat), c ∉ p → cut c p = [p]
  | [], _ => rfl
  | a :: p, h => by
    have ha : a ≠ c := fun e => h (e ▸ List.mem_cons_self)
    rw [cut, if_neg ha, cut_free c p fun hm => h (List.mem_cons_of_mem _ hm)]
theorem cut_join (c : Nat) : ∀ ps : List Str, ps ≠ [] → (∀ p ∈ ps, c ∉ p.cps.toList) → cut c (Str.join ⟨#[c]⟩ ps).cps.toList = ps.map (·.cps.toList)
  | [], h, _ => absurd rfl h
  | [x], _, h => cut_free c _ (h x (List.Mem.head _))
  | x :: y :: r, _, h => by
    have ih := cut_join c (y :: r) (by simp) fun p hp => h p (List.mem_cons_of_mem _ hp)
    have e : (Str.join ⟨#[c]⟩ (x :: y :: r)).cps.toList = x.cps.toList ++ c :: (Str.join ⟨#[c]⟩ (y :: r)).cps.toList := by
      show ((x.cps ++ #[c]) ++ (Str.join ⟨#[c]⟩ (y :: r)).cps).toList = _
      simp
    rw [e, cut_at c _ _ (h x (List.Mem.head _)), ih]
    rfl
theorem split_cut (x : Str) (c : Nat) : (Txt.split x ⟨#[c]⟩).map (·.cps.toList) = cut c x.cps.toList := by
  have h1 := StrLaws.join_split x ⟨#[c]⟩
  have h2 := StrLaws.split_free x c
  have h3 := PyProof.Rows.split_pos x ⟨#[c]⟩
  rw [← cut_join c _ (by intro e; rw [e] at h3; simp at h3) h2, h1]
end Mine
end
theorem Mine.off_P2a : True := by
  w_top off
  trivial
section
open PySem PySem.W PyProof.Rows
set_option Elab.async false
set_option maxRecDepth 100000
namespace Mine
/-- a list of n stretches of k, each turned -/
def rnd (k : Nat) : Nat → List Nat → List Nat
  | 0, _ => []
  | n + 1, l => (l.take k).reverse ++ rnd k n (l.drop k)
theorem rnd_get (k : Nat) (hk : 0 < k) : ∀ (n : Nat) (l : List Nat) (i : Nat), l.length = n * k → i < n * k → (rnd k n l)[i]? = l[i / k * k + (k - 1 - i % k)]?
  | 0, l, i, hl, hi => by omega
  | n + 1, l, i, hl, hi => by
    rw [Nat.add_mul, Nat.one_mul] at hl hi
    have hr : ((l.take k).reverse).length = k := by rw [List.length_reverse, List.length_take]; omega
    unfold rnd
    by_cases h : i < k
    · rw [List.getElem?_append_left (by omega), Nat.div_eq_of_lt h, Nat.mod_eq_of_lt h, List.getElem?_reverse (by rw [List.length_take]; omega), List.length_take, Nat.min_eq_left (by omega), List.getElem?_take_of_lt (by omega)]
      congr 1
      omega
    · obtain ⟨j, rfl⟩ : ∃ j, i = k + j := ⟨i - k, by omega⟩
      rw [List.getElem?_append_right (by omega), hr, Nat.add_sub_cancel_left, rnd_get k hk n (l.drop k) j (by rw [List.length_drop]; omega) (by omega), List.getElem?_drop]
      rw [Nat.add_div_left _ hk, Nat.add_mod_left]
      congr 1
      rw [Nat.succ_mul]
      omega
theorem rnd_length (k : Nat) : ∀ (n : Nat) (l : List Nat), l.length = n * k → (rnd k n l).length = n * k
  | 0, _, _ => by simp [rnd]
  | n + 1, l, hl => by
    rw [Nat.add_mul, Nat.one_mul] at hl
    unfold rnd
    rw [List.length_append, List.length_reverse, List.length_take, rnd_length k n _ (by rw [List.length_drop]; omega), Nat.add_mul]
    omega
theorem turnW_length (x : Str) (k : Nat) : (turnW x k).cps.toList.length = x.length := by
  unfold turnW chrs
  rw [Array.length_toList, Array.size_map, swp_size, octs_size]
theorem turnW_rnd {x : Str} {k n : Nat} (h : ∀ c ∈ x.cps.toList, c < 256) (hk : 0 < k) (hl : x.length = n * k) : (turnW x k).cps.toList = rnd k n x.cps.toList := by
  have hxl : x.cps.toList.length = n * k := by rw [Array.length_toList]; exact hl
  apply List.ext_getElem?
  intro i
  by_cases hi : i < n * k
  · rw [rnd_get k hk n _ i hxl hi]
    have hb : (octs x).size = x.length := octs_size x
    have hd : i / k < n := Nat.div_lt_of_lt_mul (by rw [Nat.mul_comm]; exact hi)
    have hm := Nat.mod_lt i hk
    have hle : i / k * k + k ≤ n * k := by
      have : (i / k + 1) * k ≤ n * k := Nat.mul_le_mul_right _ hd
      rwa [Nat.add_mul, Nat.one_mul] at this
    have hidx : i / k * k + (k - 1 - i % k) < x.cps.size := by
      show _ < x.length
      omega
    unfold turnW chrs
    rw [Array.getElem?_toList, Array.getElem?_map, swp_get (by omega), Array.getElem?_toList, Array.getElem?_eq_getElem hidx]
    simp only [Option.map_some, Option.some.injEq]
    have hc := h x.cps[i / k * k + (k - 1 - i % k)] (Array.getElem_mem_toList hidx)
    unfold octs
    rw [Array.getD_eq_getD_getElem?, Array.getElem?_map, Array.getElem?_eq_getElem hidx]
    simp only [Option.map_some, Option.getD_some]
    exact UInt8.toNat_ofNat_of_lt' (by simpa using hc)
  · rw [List.getElem?_eq_none (by rw [turnW_length]; omega), List.getElem?_eq_none (by rw [rnd_length k n _ hxl]; omega)]
theorem join_nil_list : ∀ ts : List Str, (Str.join (Str.ofString "") ts).cps.toList = (ts.map (·.cps.toList)).flatten
  | [] => by simp [Str.join, Str.empty]
  | [x] => by simp [Str.join]
  | x :: y :: r => by
    have ih := join_nil_list (y :: r)
    have e : (Str.ofString "").cps = #[] := by decide +kernel
    show ((x.cps ++ (Str.ofString "").cps) ++ (Str.join (Str.ofString "") (y :: r)).cps).toList = _
    rw [e, Array.toList_append, ih]
    simp
theorem flat_rnd (k : Nat) : ∀ (n : Nat) (l : List Nat), ((List.range n).map fun i => ((l.drop (i * k)).take k).reverse).flatten = rnd k n l
  | 0, l => rfl
  | n + 1, l => by
    rw [List.range_succ_eq_map, List.map_cons, List.flatten_cons, List.map_map]
    unfold rnd
    rw [Nat.zero_mul, List.drop_zero]
    congr 1
    rw [← flat_rnd k n (l.drop k)]
    congr 1
    apply List.map_congr_left
    intro i _
    simp only [Function.comp_apply, List.drop_drop]
    congr 3
    rw [Nat.succ_mul, Nat.add_comm]
theorem round_rnd {x : Str} {k n : Nat} (hk : 0 < k) (hl : x.length = n * k) : (roundOf x k).cps.toList = rnd k n x.cps.toList := by
  have hn : x.length / k = n := by rw [hl]; exact Nat.mul_div_cancel _ hk
  unfold roundOf
  show (Builtin.Str.glued _ _).cps.toList = _
  rw [StrLaws.glued_eq_join, join_nil_list, ← flat_rnd k n]
  unfold roundKs
  rw [hn, List.map_map, List.map_map]
  congr 1
  apply List.map_congr_left
  intro i hi
  rw [List.mem_range] at hi
  have hle : i * k + k ≤ n * k := by
    have : (i + 1) * k ≤ n * k := Nat.mul_le_mul_right _ hi
    rwa [Nat.add_mul, Nat.one_mul] at this
  simp only [Function.comp_apply, pieceAt]
  have e : (0 + (i : Int) * (k : Int)) = ((i * k : Nat) : Int) := by rw [Int.natCast_mul, Int.zero_add]
  have e2 : ((i * k : Nat) : Int) + (k : Int) = ((i * k + k : Nat) : Int) := by omega
  rw [e, e2, slice_ij (by omega) (by rw [Array.length_toList]; show _ ≤ x.length; omega), Nat.add_sub_cancel_left]
  simp [rev]
theorem turn_round {x : Str} {k : Nat} (h : ∀ c ∈ x.cps.toList, c < 256) (hk : 0 < k) (hd : k ∣ x.length) : turnW x k = roundOf x k := by
  obtain ⟨n, hn⟩ := hd
  have hl : x.length = n * k := by rw [hn, Nat.mul_comm]
  exact Str.ext' (Array.ext' (by rw [turnW_rnd h hk hl, round_rnd hk hl]))
end Mine
end
theorem Mine.off_LawDef2 : True := by
  w_top off
  trivial
section
open PySem PySem.W PyProof.Rows PySem.Calls
set_option Elab.async false
set_option maxRecDepth 100000
namespace Mine
def recOf {q : Program} {loose : List Str} {XP : (Str → Option Value) → Heap → Prop} {YP : World → Heap → Prop} {r : RowW} {d : DefRec} {kwd : List (Str × Expr)} {P : Prop} (_ : WalkR q loose XP YP r d kwd → P) : DefRec := d
/-- the law's def, read off the head's own type -/
def law2_d : DefRec := recOf hd2
/-- calling, from the caller, a def whose locals are captured; nothing flies out -/
theorem call_cellsR {prog : Program} {w : World} {A : Around} {R : Result → Shared → Prop} {s : Shared} {name : Str} {params : Arguments} {body : List Stmt} {scope : Scope}
    {dV kV pm cd doc : Value} {a : Addr} {o : Obj} {args : Args} {binds : List (Str × Value)}
    (hroom : A.depth < recursionLimit) (ho : s.heap.get? a = some o) (hdata : o.data = .func { docDef name params body scope pm cd doc with defaults := dV, kwdefaults := kV }) (hlim : s.heap.NoLimit) (hcd : s.heap.CodeRec cd name)
    (hbind : BindsTo s { docDef name params body scope pm cd doc with defaults := dV, kwdefaults := kV } args binds)
    (hkind : (binds.all fun y => scope.names.lookup y.1 == some .local || scope.names.lookup y.1 == some .cell) = true)
    (hnd : ((cellsFrom 0 scope.names []).map (·.1)).Nodup)
    (h : ∀ h₁ tk cells, Fr s.heap s.heap.objs.size h₁ (bindL (envOfC name scope s.heap.objs.size a cd).kindOf binds fun _ => none) → News s.heap s.heap.objs.size h₁ cells →
      CellsAre (bindC (envOfC name scope s.heap.objs.size a cd).kindOf binds fun _ => none) (cellsFrom (s.heap.objs.size + 1) scope.names []) cells →
      wpR (model prog w) (A.deeper (envOfC name scope s.heap.objs.size a cd)) (execs body (envOfC name scope s.heap.objs.size a cd))
        (fun f s' => R (.ok (.ret (match f with | .ret v => v | _ => .none))) s') (fun _ _ => False) { s with heap := h₁, toks := tk })
    (hco : scope.isCoroutine = false := by rfl) (hgen : scope.isGenerator = false := by rfl) (hk : scope.kind = .function := by rfl) :
    codeR (model prog w) A (.call (.ref a) args) R s := by
  refine codeR_call_function hroom ho hdata hco hgen rfl hcd (hbind _ _ _ _ ?_)
  refine wpAny_newFunctionEnv_cells hk (kindsX hkind _) fun env' he s' x => ?_
  subst he
  refine ⟨hlim.keeps x.toInCall.keep, codeR_func ?_⟩
  obtain ⟨h₁, tk, rfl, _⟩ := x.done
  have hk₁ := x.toInCall.keep
  obtain ⟨cells, NC, Y⟩ := Cl.news (h₀ := s.heap) (Nat.le_refl _) fun n c hm => ⟨x.cell n c (lookup_of_mem_nodup (cellsFrom_names scope.names 0 (s.heap.objs.size + 1) [] [] rfl ▸ hnd) hm), x.above n c hm⟩
  exact wpR_mono (h h₁ tk cells ⟨x.toInCall.ns, hk₁, Nat.le_refl _⟩ NC Y) (fun _ _ x => x) fun _ _ x => x.elim
end Mine
end
theorem Mine.off_L2c : True := by
  w_top off
  trivial
section
open PySem PySem.W PyProof.Rows PySem.Calls
set_option Elab.async false
set_option maxRecDepth 100000
set_option maxHeartbeats 8000000
namespace Mine
def replyOf (f g : Str) : Str := Str.ofString "257 \"" ++ f ++ Str.ofString "\" " ++ Txt.mul (Str.ofString ".") (34 - (f.length : Int) - (g.length : Int)) ++ Str.ofString " \"" ++ g ++ Str.ofString "\" 752"
theorem law2_stage3 (w : World) (mean : ExcName → Option Value) (mg mb : Str → Option Value) (h₀ : Heap) (L fa : Addr) (cd : Value) (f g : Str) (tf tg : Tok) (hp : Heap) (tk0 : Nat) (s : Shared) (Q : Flow → Shared → Prop) (o1 o2 : Obj) (m : Str → Option Value) (htk : 0 < tk0) (hf : f.length ≤ 10) (hg : g.length ≤ 10) :
  ∀ (K0 : Below callerA h₀ [] h₀) (X : (hd2.heap_39 w.params).In h₀) (T : Top hd2.view_39 (looseW hd2.view_39 []) mean mg mb h₀)
  (F : Fr h₀ L hp (fun y => if y = Str.ofString "first" then some (.str f tf) else if y = Str.ofString "second" then some (.str g tg) else m y)) (N : News h₀ L hp [(L + 1 + 1, o2), (L + 1, o1)])
  (c1 : o1.data = .cell none) (c2 : o2.data = .cell none)
  (k : ∀ (t1 : Tok) (o' : Obj) (h' : Heap) (tk : Nat), o'.data = .cell (some (.str (replyOf f g) t1)) → Fr h₀ L h' (fun y => if y = Str.ofString "first" then some (.str f tf) else if y = Str.ofString "second" then some (.str g tg) else m y) →
    News h₀ L h' [(L + 1 + 1, o2), (L + 1, o')] → 
    wpR (model PySem.Challenge.rw_pe0048_02.row.prog w) (callerA.deeper (envOfC law2_d.name law2_d.scope L fa cd)) (execs law2_d.body.tail.tail.tail (envOfC law2_d.name law2_d.scope L fa cd)) Q (fun _ _ => False) { s with heap := h', toks := tk }),
  wpR (model PySem.Challenge.rw_pe0048_02.row.prog w) (callerA.deeper (envOfC law2_d.name law2_d.scope L fa cd)) (execs law2_d.body.tail.tail (envOfC law2_d.name law2_d.scope L fa cd)) Q (fun _ _ => False) { s with heap := hp, toks := tk0 } := by
  k_fill
  dsimp only [law2_d, recOf, List.tail_cons]
  intro K0 X T F N c1 c2 k
  refine R_stmt ?_
  generalize hE : (fun (_ : Value) (_ : Shared) => False) = E0 at k ⊢
  generalize hk : wpR (model PySem.Challenge.rw_pe0048_02.row.prog w) _ _ Q E0 = K9 at k ⊢
  repeat (first | walk1 | (dsimp only; walk1))
  with_reducible rename Fr h₀ L _ _ => F9
  with_reducible rename News h₀ L _ _ => N9
  exact k _ _ _ _ (by assumption) F9 N9
end Mine
end
theorem Mine.off_C_heard : True := by
  w_top off
  trivial
section
open PySem PySem.W PyProof.Rows PySem.Calls
set_option Elab.async false
set_option maxRecDepth 100000
set_option maxHeartbeats 8000000
namespace Mine
theorem heard_ok257 (w : World) (mean : ExcName → Option Value) (mg mb : Str → Option Value) (x : Str) (tx : Tok) (wd : Int) (tw : Tok) (l : List Nat)
   (h256 : ∀ c ∈ x.cps.toList, c < 256) (hne : 0 < x.length) (hsz : x.length ≤ 1000) (h0 : 0 < wd) (hwd : wd ≤ 1000) (hdvd : wd.toNat ∣ x.length)
   (hy : (turnW x wd.toNat).cps.toList = 50 :: 53 :: 55 :: 32 :: 34 :: l) 
   (news : List (Addr × Obj)) (env : Env) (h₀ : Heap) (L : Addr) (m : Str → Option Value) (s : Shared) (Q : Value → Shared → Prop)
   : ∀ (hf : env.frame = some L) (hke : env.scope.kind = .function) (B : Below callerA h₀ [] h₀) (F : Fr h₀ L s.heap m) (X : (hd2.heap_39 w.params).In h₀) (N : News h₀ L s.heap news) (T : Top hd2.view_39 (looseW hd2.view_39 []) mean mg mb h₀) 
   (hret : ∀ (r : Value) (nw : List (Addr × Obj)) (h' : Heap) (tk' : Nat), Fr h₀ L h' m → News h₀ L h' (nw ++ news) → (∀ p ∈ nw, ∀ q ∈ news, p.1 ≠ q.1) → Held nw r (.list [.str (turnW x wd.toNat), .str ⟨(unq l).toArray⟩]) → Q r { s with heap := h', toks := tk' }),
   wpR (model PySem.Challenge.rw_pe0048_02.row.prog w) (callerA.deeper env) (call (.ref 89) [.str x tx, .int wd tw, .bool false]) Q (fun _ _ => False) s := by
  k_fill
  intro hf hke B F X N T hret
  refine wpR_call ?_
  k_dflt (refine' codeR_defS0 (env := env) (binds := [(Str.ofString "text", .str x tx), (Str.ofString "width", .int wd tw), (Str.ofString "port", .bool false)]) B F X N T rfl hf hke ?k6 ?k7 ?k8 ?k9 ?kB ?_ ?c2 ?c3 ?c4 ?c5; (case k6 => k_is); (case k7 => k_is); (case k8 => k_room); (case k9 => exact BindsTo.of_eq rfl); (case c5 => decide); (case kB => exact locs rfl); (case c2 => exact rfl); (case c3 => exact rfl); (case c4 => exact rfl); k_whole)
  intro g' L' h' FG' F' N' B' X' T' D'
  refine R_stmtR (R_assign (R_Method (R_Call ?_)))
  k_steps
  refine R_args_fn (R_args_cons (wpR_of_any ?_))
  k_steps
  refine method_encode ?_
  k_steps
  refine encode_K h256 hne (by omega) ?_
  intro t1 k1
  dsimp only
  refine R_args_cons (wpR_of_any ?_)
  k_steps
  refine R_args_nil ⟨isFn_K X' (by assumption) (by k_is), ?_⟩
  have hos := octs_size x
  refine swap_d w mean mg mb (octs x) wd t1 _ h0 (by rw [hos]; exact hdvd) (by omega) (by omega) news _ _ _ _ _ _ _ _ _ _ _ _ _ _ _ _ _ B' (by assumption) X' (by assumption) T' rfl (Nat.le_of_ble_eq_true rfl) (Nat.le_of_ble_eq_true rfl) ?_
  intro t2 h2 tk2 F2 N2
  have hsw := swp_size (octs x) wd.toNat
  have hos2 : (swp (octs x) wd.toNat).size = x.length := hsw.trans hos
  unfold turnW at hy hret
  generalize swp (octs x) wd.toNat = b2 at hret hy hos2 ⊢
  dsimp only
  k_steps
  refine decode_K (by omega) (by omega) ?_
  intro t4 k4
  have hyb : (chrs b2).length = b2.size := by simp [chrs, Str.length]
  generalize chrs b2 = y at hret hy hyb ⊢
  have hyl : y.length ≤ 1000 := by have : y.length = b2.size := hyb; omega
  dsimp only
  k_steps
  refine R_stmt ?_
  iterate 20 (first | walk1 | (dsimp only; walk1))

  refine p257_d w mean mg mb _ y _ l hy (by omega) _ _ _ _ _ _ _ _ _ _ _ _ _ _ _ _ _ B' (by assumption) X' (by assumption) T' rfl trivial (Nat.le_of_ble_eq_true rfl) (Nat.le_of_ble_eq_true rfl) ?_
  intro t5 h5 tk5 F5 N5
  k_steps
  rename Fr h₀ L _ m => kF9
  rename News h₀ L _ (_ :: news) => kN9
  rename ∀ p ∈ news, p.1 < _ => l9
  exact hret _ [(_, _)] _ _ kF9 kN9 (fun p hp q hq => by rw [List.mem_singleton.mp hp]; exact Nat.ne_of_gt (l9 q hq)) (.list (List.Mem.head _) rfl rfl (.cons (.str _ _) (.cons (.str _ _) .nil)))
end Mine
end
theorem Mine.off_C_heard3 : True := by
  w_top off
  trivial
section
open PySem PySem.W PyProof.Rows PySem.Calls
set_option Elab.async false
set_option maxRecDepth 100000
set_option maxHeartbeats 8000000
namespace Mine
theorem heard_bad229 (w : World) (mean : ExcName → Option Value) (mg mb : Str → Option Value) (x : Str) (tx : Tok) (wd : Int) (tw : Tok)
   (h256 : ∀ c ∈ x.cps.toList, c < 256) (hne : 0 < x.length) (hsz : x.length ≤ 1000) (h0 : 0 < wd) (hwd : wd ≤ 1000) (hdvd : wd.toNat ∣ x.length)
   (hy : (Txt.slice (turnW x wd.toNat) none (some 3) != Str.ofString "229") = true) 
   (news : List (Addr × Obj)) (env : Env) (h₀ : Heap) (L : Addr) (m : Str → Option Value) (s : Shared) (Q : Value → Shared → Prop)
   : ∀ (hf : env.frame = some L) (hke : env.scope.kind = .function) (B : Below callerA h₀ [] h₀) (F : Fr h₀ L s.heap m) (X : (hd2.heap_39 w.params).In h₀) (N : News h₀ L s.heap news) (T : Top hd2.view_39 (looseW hd2.view_39 []) mean mg mb h₀) 
   (hret : ∀ (r : Value) (nw : List (Addr × Obj)) (h' : Heap) (tk' : Nat), Fr h₀ L h' m → News h₀ L h' (nw ++ news) → (∀ p ∈ nw, ∀ q ∈ news, p.1 ≠ q.1) → Held nw r (.list [.str (turnW x wd.toNat), .list [.str (Str.ofString "refused"), .str (turnW x wd.toNat)]]) → Q r { s with heap := h', toks := tk' }),
   wpR (model PySem.Challenge.rw_pe0048_02.row.prog w) (callerA.deeper env) (call (.ref 89) [.str x tx, .int wd tw, .bool true]) Q (fun _ _ => False) s := by
  k_fill
  intro hf hke B F X N T hret
  refine wpR_call ?_
  k_dflt (refine' codeR_defS0 (env := env) (binds := [(Str.ofString "text", .str x tx), (Str.ofString "width", .int wd tw), (Str.ofString "port", .bool true)]) B F X N T rfl hf hke ?k6 ?k7 ?k8 ?k9 ?kB ?_ ?c2 ?c3 ?c4 ?c5; (case k6 => k_is); (case k7 => k_is); (case k8 => k_room); (case k9 => exact BindsTo.of_eq rfl); (case c5 => decide); (case kB => exact locs rfl); (case c2 => exact rfl); (case c3 => exact rfl); (case c4 => exact rfl); k_whole)
  intro g' L' h' FG' F' N' B' X' T' D'
  refine R_stmtR (R_assign (R_Method (R_Call ?_)))
  k_steps
  refine R_args_fn (R_args_cons (wpR_of_any ?_))
  k_steps
  refine method_encode ?_
  k_steps
  refine encode_K h256 hne (by omega) ?_
  intro t1 k1
  dsimp only
  refine R_args_cons (wpR_of_any ?_)
  k_steps
  refine R_args_nil ⟨isFn_K X' (by assumption) (by k_is), ?_⟩
  have hos := octs_size x
  refine swap_d w mean mg mb (octs x) wd t1 _ h0 (by rw [hos]; exact hdvd) (by omega) (by omega) news _ _ _ _ _ _ _ _ _ _ _ _ _ _ _ _ _ B' (by assumption) X' (by assumption) T' rfl (Nat.le_of_ble_eq_true rfl) (Nat.le_of_ble_eq_true rfl) ?_
  intro t2 h2 tk2 F2 N2
  have hsw := swp_size (octs x) wd.toNat
  have hos2 : (swp (octs x) wd.toNat).size = x.length := hsw.trans hos
  unfold turnW at hy hret
  generalize swp (octs x) wd.toNat = b2 at hret hy hos2 ⊢
  dsimp only
  k_steps
  refine decode_K (by omega) (by omega) ?_
  intro t4 k4
  have hyb : (chrs b2).length = b2.size := by simp [chrs, Str.length]
  generalize chrs b2 = y at hret hy hyb ⊢
  have hyl : y.length ≤ 1000 := by have : y.length = b2.size := hyb; omega
  dsimp only
  k_steps
  refine R_stmt ?_
  k_steps
  rename Got _ _ _ _ _ => GG
  k_dflt (refine' own_str (K := hd2.heap_39 w.params) ?u ?X ?N GG ?f ?g ?_; (case N => assumption); (case u => exact Nat.le_of_ble_eq_true rfl); (case X => k_in); (case f => k_is); (case g => k_is); k_whole)
  k_steps
  with_reducible rename Fr h₀ L _ m => kF9
  with_reducible rename News h₀ L _ (_ :: _ :: _ :: news) => kN9
  with_reducible rename ∀ p ∈ news, p.1 < _ => l8
  with_reducible rename _ ∧ _ ∧ AllLt _ news => l10
  with_reducible rename _ ∧ AllLt _ news => l9
  exact hret _ [(_, _), (_, _), (_, _)] _ _ kF9 kN9 (fun p hp q hq => by
    rcases List.mem_cons.mp hp with rfl | hp
    · exact Nat.ne_of_gt (allLt_mem l10.2.2 q hq)
    rcases List.mem_cons.mp hp with rfl | hp
    · exact Nat.ne_of_gt (allLt_mem l9.2 q hq)
    · rw [List.mem_singleton.mp hp]; exact Nat.ne_of_gt (l8 q hq)) (.list (List.Mem.head _) rfl rfl (.cons (.str _ _) (.cons (.list (List.Mem.tail _ (List.Mem.head _)) rfl rfl (.cons (.str _ _) (.cons (.str _ _) .nil))) .nil)))
end Mine
end
theorem Mine.off_C_p229 : True := by
  w_top off
  trivial
section
open PySem PySem.W PyProof.Rows PySem.Calls
set_option Elab.async false
set_option maxRecDepth 100000
set_option maxHeartbeats 8000000
namespace Mine
theorem news_drop2 {h₀ h : Heap} {L : Addr} {a b c : Addr × Obj} {l : List (Addr × Obj)} (N : News h₀ L h (a :: b :: c :: l)) : News h₀ L h (a :: c :: l) := fun q hq => by
  rcases List.mem_cons.mp hq with rfl | hq
  · exact N _ (List.Mem.head _)
  · exact N _ (List.mem_cons_of_mem _ (List.mem_cons_of_mem _ hq))
theorem five_parts {f : Str} {l : List (Str × Tok)} (h : l.map (fun p => p.1.cps.toList) = [[], [], [], f.cps.toList, []]) : ∃ t0 t1 t2 t3 t4, l = [(⟨#[]⟩, t0), (⟨#[]⟩, t1), (⟨#[]⟩, t2), (f, t3), (⟨#[]⟩, t4)] := by
  have e : ∀ {x : Str} {k : Str}, x.cps.toList = k.cps.toList → x = k := fun h => Str.ext' (Array.ext' h)
  have hl : l.length = 5 := by simpa using congrArg List.length h
  match l, hl, h with
  | [(a, t0), (b, t1), (c, t2), (d, t3), (g, t4)], _, h =>
    simp only [List.map_cons, List.map_nil, List.cons.injEq, and_true] at h
    obtain ⟨h0, h1, h2, h3, h4⟩ := h
    exact ⟨t0, t1, t2, t3, t4, by rw [e (k := ⟨#[]⟩) h0, e (k := ⟨#[]⟩) h1, e (k := ⟨#[]⟩) h2, e h3, e (k := ⟨#[]⟩) h4]⟩
theorem p229_d (w : World) (mean : ExcName → Option Value) (mg mb : Str → Option Value) (news : List (Addr × Obj)) (x f : Str) (tx th ti : Tok) (P : Addr) (b c : Nat) (n : Int)
   (hx : x.cps.toList = [50, 50, 57, 32] ++ (List.replicate b 32 ++ 40 :: ([c, c, c] ++ f.cps.toList ++ [c] ++ [41]))) (hc : c ≠ 40 ∧ c ≠ 41 ∧ c < 256) (hf : ∀ d ∈ f.cps.toList, d ≠ c ∧ d ≠ 41) (hn : PySem.intText? f = some n) (hsz : x.length ≤ 500)
   (dp un : Nat) (gd : Option (List Code)) (cn : Str) (cs : Scope) (a : Addr) (ccd : Value) (cl : List (Str × Addr)) (outer : List Env) (A₀ : Around) (base h₀ : Heap) (L : Addr) (m : Str → Option Value) (s : Shared) (Q E : Value → Shared → Prop) :
   ∀ (B : Below A₀ base outer h₀) (F : Fr h₀ L s.heap m) (X : (hd2.heap_39 w.params).In h₀) (N : News h₀ L s.heap ((P, { cls := .type "tuple", data := .seq #[.str (Str.ofString "host") th, .int 21 ti] }) :: news)) (T : Top hd2.view_39 (looseW hd2.view_39 []) mean mg mb h₀) (hcs : cs.kind = .function) (hdp : dp + 1 < recursionLimit) (hun : un + 8 < cLine)
   (hret : ∀ (D : Addr) (t u : Tok) (h' : Heap) (tk' : Nat), Fr h₀ L h' m → News h₀ L h' ((D, { cls := .type "tuple", data := .seq #[.str (Str.ofString "host") t, .int n u] }) :: (P, { cls := .type "tuple", data := .seq #[.str (Str.ofString "host") th, .int 21 ti] }) :: news) → (∀ p ∈ news, p.1 < D) → P < D → Q (.ref D) { s with heap := h', toks := tk' }),
   wpAny (model PySem.Challenge.rw_pe0048_02.row.prog w) (ktrTop dp un gd cn cs L a ccd cl outer) (call (.ref 65) [.str x tx, .ref P]) Q E s := by
  k_fill
  intro B F X N T hcs hdp hun hret
  refine wpAny_call ?_
  k_dflt (refine' code_def (binds := [(Str.ofString "resp", .str x tx), (Str.ofString "peer", .ref P)]) B F X N T rfl rfl hcs ?k6 ?k7 ?k8 ?k9 ?kB ?_ ?c2 ?c3 ?c4 ?c5; (case k6 => k_is); (case k7 => k_is); (case k8 => ktr_room); (case k9 => exact BindsTo.of_eq rfl); (case c5 => decide); (case kB => exact locs rfl); (case c2 => exact rfl); (case c3 => exact rfl); (case c4 => exact rfl); k_whole)
  intro g' L' h' FG' F' N' B' X' T'
  clear F N X T B
  have e1 : (Txt.slice x none (some 3) != Str.ofString "229") = false := by
    rw [show (3 : Int) = ((3 : Nat) : Int) from rfl, slice_to (by rw [hx]; simp), hx]; simp only [List.cons_append, List.take_succ_cons, List.take_zero]; decide +kernel
  have e2 : Txt.find x (Str.ofString "(") = ((4 + b : Nat) : Int) := by
    rw [show Str.ofString "(" = ⟨#[40]⟩ by decide +kernel, find_first (p := [50, 50, 57, 32] ++ List.replicate b 32) (r := [c, c, c] ++ f.cps.toList ++ [c] ++ [41]) (by rw [hx]; simp) (by simp)]
    simp only [List.length_append, List.length_cons, List.length_nil, List.length_replicate]
  have e3 : Txt.find3 x (Str.ofString ")") (((4 + b : Nat) : Int) + 1) = ((b + 9 + f.length : Nat) : Int) := by
    have := find3_first (x := x) (c := 41) (p := [50, 50, 57, 32] ++ List.replicate b 32 ++ [40]) (q := [c, c, c] ++ f.cps.toList ++ [c]) (r := []) (by rw [hx]; simp) (by
      intro h
      simp only [List.mem_append, List.mem_cons, List.not_mem_nil, or_false] at h
      rcases h with (h | h) | h
      · omega
      · exact (hf _ h).2 rfl
      · omega)
    rw [show Str.ofString ")" = ⟨#[41]⟩ by decide +kernel]
    simp only [List.length_append, List.length_cons, List.length_nil, List.length_replicate, Array.length_toList] at this
    rw [show (((4 + b : Nat) : Int) + 1) = ((0 + 1 + 1 + 1 + 1 + b + (0 + 1) : Nat) : Int) by omega, this]
    congr 1
    show 0 + 1 + 1 + 1 + 1 + b + (0 + 1) + (0 + 1 + 1 + 1 + f.cps.size + (0 + 1)) = b + 9 + f.cps.size
    omega
  have hlen : x.length = b + 10 + f.length := by
    have := congrArg List.length hx
    simp only [List.length_append, List.length_cons, List.length_nil, List.length_replicate, Array.length_toList] at this
    show x.cps.size = b + 10 + f.cps.size
    omega
  have e4 : Txt.item x (((4 + b : Nat) : Int) + 1) = ⟨#[c]⟩ := by
    have := item_at (x := x) (p := [50, 50, 57, 32] ++ List.replicate b 32 ++ [40]) (l := [c, c, c] ++ f.cps.toList ++ [c] ++ [41]) (i := 0) (c := c) (by rw [hx]; simp) rfl
    simp only [List.length_append, List.length_cons, List.length_nil, List.length_replicate] at this
    rw [show (((4 + b : Nat) : Int) + 1) = ((0 + 1 + 1 + 1 + 1 + b + (0 + 1) + 0 : Nat) : Int) by omega, this]
  have e5 : Txt.item x (((b + 9 + f.length : Nat) : Int) - 1) = ⟨#[c]⟩ := by
    have := item_at (x := x) (p := [50, 50, 57, 32] ++ List.replicate b 32 ++ [40, c, c, c] ++ f.cps.toList) (l := [c] ++ [41]) (i := 0) (c := c) (by rw [hx]; simp) rfl
    simp only [List.length_append, List.length_cons, List.length_nil, List.length_replicate, Array.length_toList] at this
    have e : (((b + 9 + f.length : Nat) : Int) - 1) = ((0 + 1 + 1 + 1 + 1 + b + (0 + 1 + 1 + 1 + 1) + f.cps.size + 0 : Nat) : Int) := by
      show (((b + 9 + f.cps.size : Nat) : Int) - 1) = _
      omega
    rw [e, this]
  have e45 : (Txt.item x (((4 + b : Nat) : Int) + 1) != Txt.item x (((b + 9 + f.length : Nat) : Int) - 1)) = false := by rw [e4, e5]; simp
  have e6 : (Txt.slice x (some (((4 + b : Nat) : Int) + 1)) (some ((b + 9 + f.length : Nat) : Int))) = ⟨([c, c, c] ++ f.cps.toList ++ [c]).toArray⟩ := by
    rw [show (((4 + b : Nat) : Int) + 1) = ((5 + b : Nat) : Int) by omega, slice_ij (by omega) (by rw [Array.length_toList]; show b + 9 + f.length ≤ x.length; omega), hx]
    have e : [50, 50, 57, 32] ++ (List.replicate b 32 ++ 40 :: ([c, c, c] ++ f.cps.toList ++ [c] ++ [41])) = ([50, 50, 57, 32] ++ List.replicate b 32 ++ [40]) ++ (([c, c, c] ++ f.cps.toList ++ [c]) ++ [41]) := by simp
    rw [e, List.drop_append_of_le_length (by simp; omega), List.drop_of_length_le (by simp; omega), List.nil_append, List.take_append_of_le_length (by simp only [List.length_append, List.length_cons, List.length_nil, Array.length_toList]; show b + 9 + f.cps.size - (5 + b) ≤ _; omega), List.take_of_length_le (by simp only [List.length_append, List.length_cons, List.length_nil, Array.length_toList]; show _ ≤ b + 9 + f.cps.size - (5 + b); omega)]
  refine execs_hold ?_
  k_steps
  refine execs_hold ?_
  iterate 10 (first | walk1 | (dsimp only; walk1))
  with_reducible rename Fr g' L' _ (fun y => if y = Str.ofString "left" then _ else _) => F1
  rw [e2] at F1
  refine execs_hold ?_
  k_steps
  refine execs_hold ?_
  iterate 15 (first | walk1 | (dsimp only; walk1))
  with_reducible rename Fr g' L' _ (fun y => if y = Str.ofString "right" then _ else _) => F2
  rw [e3] at F2
  refine execs_hold ?_
  k_steps
  refine execs_hold ?_
  iterate 10 (first | walk1 | (dsimp only; walk1))
  dsimp only
  iterate 11 (first | walk1 | (dsimp only; walk1))
  clear e1 e45
  refine execs_hold ?_
  iterate 25 (first | walk1 | (dsimp only; walk1))
  rw [e6, e4]
  have hsf : 4 + f.length ≤ 500 := by omega
  have hyl : ([c, c, c] ++ f.cps.toList ++ [c]).length = 4 + f.length := by
    simp only [List.length_append, List.length_cons, List.length_nil, Array.length_toList]; show 0 + 1 + 1 + 1 + f.cps.size + (0 + 1) = 4 + f.cps.size; omega
  refine KSpl.split1 (by k_asm) (by k_asm) rfl ?_ (by rw [sizeLine_eq]; show List.length _ + 2 ≤ _; rw [hyl]; omega)
  intro D l h9 k9 el ea F3 N3 l1
  have hcut : l.map (fun p => p.1.cps.toList) = [[], [], [], f.cps.toList, []] := by
    have h1 := congrArg (List.map (·.cps.toList)) el
    rw [split_cut, List.map_map] at h1
    have hcf : c ∉ f.cps.toList := fun hm => (hf _ hm).1 rfl
    refine Eq.trans h1 ?_
    show cut c ([c, c, c] ++ f.cps.toList ++ [c]) = _
    rw [show [c, c, c] ++ f.cps.toList ++ [c] = ([] : List Nat) ++ c :: ([] ++ c :: ([] ++ c :: (f.cps.toList ++ c :: []))) by simp, cut_at c _ _ (by simp), cut_at c _ _ (by simp), cut_at c _ _ (by simp), cut_at c _ _ hcf]
    rfl
  obtain ⟨t0, t1, t2, t3, t4, rfl⟩ := five_parts hcut
  clear el ea e2 e3 e4 e5 e6 hx hf hc hlen hcut
  dsimp only [strValues, List.map_cons, List.map_nil] at N3 ⊢
  have hfl : f.length ≤ 640 := by
    omega
  walk1
  refine execs_hold ?_
  repeat (first | walk1 | (dsimp only; walk1))
  refine execs_hold ?_
  repeat (first | walk1 | (dsimp only; walk1))
  refine execs_hold ?_
  repeat (first | walk1 | (dsimp only; walk1))
  refine execs_hold ?_
  repeat (first | walk1 | (dsimp only; walk1))
  with_reducible rename _ ∧ _ ∧ AllLt _ news => l9
  exact leaveK_ (L' := L') (by assumption) (by assumption) fun F8 N8 => hret _ _ _ _ _ F8 (news_drop2 N8) (allLt_mem l9.2.2) l9.2.1
end Mine
end
theorem Mine.off_C_heard4 : True := by
  w_top off
  trivial
section
open PySem PySem.W PyProof.Rows PySem.Calls
set_option Elab.async false
set_option maxRecDepth 100000
set_option maxHeartbeats 8000000
namespace Mine
theorem heard_ok229 (w : World) (mean : ExcName → Option Value) (mg mb : Str → Option Value) (x : Str) (tx : Tok) (wd : Int) (tw : Tok)
   (h256 : ∀ c ∈ x.cps.toList, c < 256) (hne : 0 < x.length) (hsz : x.length ≤ 500) (h0 : 0 < wd) (hwd : wd ≤ 1000) (hdvd : wd.toNat ∣ x.length)
   (f : Str) (b c : Nat) (n : Int)
   (hy : (turnW x wd.toNat).cps.toList = [50, 50, 57, 32] ++ (List.replicate b 32 ++ 40 :: ([c, c, c] ++ f.cps.toList ++ [c] ++ [41]))) (hc : c ≠ 40 ∧ c ≠ 41 ∧ c < 256) (hfc : ∀ d ∈ f.cps.toList, d ≠ c ∧ d ≠ 41) (hn : PySem.intText? f = some n) 
   (news : List (Addr × Obj)) (env : Env) (h₀ : Heap) (L : Addr) (m : Str → Option Value) (s : Shared) (Q : Value → Shared → Prop)
   : ∀ (hf : env.frame = some L) (hke : env.scope.kind = .function) (B : Below callerA h₀ [] h₀) (F : Fr h₀ L s.heap m) (X : (hd2.heap_39 w.params).In h₀) (N : News h₀ L s.heap news) (T : Top hd2.view_39 (looseW hd2.view_39 []) mean mg mb h₀) 
   (hret : ∀ (r : Value) (nw : List (Addr × Obj)) (h' : Heap) (tk' : Nat), Fr h₀ L h' m → News h₀ L h' (nw ++ news) → (∀ p ∈ nw, ∀ q ∈ news, p.1 ≠ q.1) → Held nw r (.list [.str (turnW x wd.toNat), .tuple [.str (Str.ofString "host"), .int n]]) → Q r { s with heap := h', toks := tk' }),
   wpR (model PySem.Challenge.rw_pe0048_02.row.prog w) (callerA.deeper env) (call (.ref 89) [.str x tx, .int wd tw, .bool true]) Q (fun _ _ => False) s := by
  k_fill
  intro hf hke B F X N T hret
  refine wpR_call ?_
  k_dflt (refine' codeR_defS0 (env := env) (binds := [(Str.ofString "text", .str x tx), (Str.ofString "width", .int wd tw), (Str.ofString "port", .bool true)]) B F X N T rfl hf hke ?k6 ?k7 ?k8 ?k9 ?kB ?_ ?c2 ?c3 ?c4 ?c5; (case k6 => k_is); (case k7 => k_is); (case k8 => k_room); (case k9 => exact BindsTo.of_eq rfl); (case c5 => decide); (case kB => exact locs rfl); (case c2 => exact rfl); (case c3 => exact rfl); (case c4 => exact rfl); k_whole)
  intro g' L' h' FG' F' N' B' X' T' D'
  refine R_stmtR (R_assign (R_Method (R_Call ?_)))
  k_steps
  refine R_args_fn (R_args_cons (wpR_of_any ?_))
  k_steps
  refine method_encode ?_
  k_steps
  refine encode_K h256 hne (by omega) ?_
  intro t1 k1
  dsimp only
  refine R_args_cons (wpR_of_any ?_)
  k_steps
  refine R_args_nil ⟨isFn_K X' (by assumption) (by k_is), ?_⟩
  have hos := octs_size x
  refine swap_d w mean mg mb (octs x) wd t1 _ h0 (by rw [hos]; exact hdvd) (by omega) (by omega) news _ _ _ _ _ _ _ _ _ _ _ _ _ _ _ _ _ B' (by assumption) X' (by assumption) T' rfl (Nat.le_of_ble_eq_true rfl) (Nat.le_of_ble_eq_true rfl) ?_
  intro t2 h2 tk2 F2 N2
  have hsw := swp_size (octs x) wd.toNat
  have hos2 : (swp (octs x) wd.toNat).size = x.length := hsw.trans hos
  unfold turnW at hy hret
  generalize swp (octs x) wd.toNat = b2 at hret hy hos2 ⊢
  dsimp only
  k_steps
  refine decode_K (by omega) (by omega) ?_
  intro t4 k4
  have hyb : (chrs b2).length = b2.size := by simp [chrs, Str.length]
  generalize chrs b2 = y at hret hy hyb ⊢
  have hyl : y.length ≤ 500 := by have : y.length = b2.size := hyb; omega
  dsimp only
  k_steps
  refine R_stmt ?_
  iterate 28 (first | walk1 | (dsimp only; walk1))
  with_reducible rename ∀ p ∈ news, p.1 < _ => l7
  refine p229_d w mean mg mb news y f _ _ _ _ b c n hy hc hfc hn hyl _ _ _ _ _ _ _ _ _ _ _ _ _ _ _ _ _ B' (by assumption) X' (by assumption) T' rfl (Nat.le_of_ble_eq_true rfl) (Nat.le_of_ble_eq_true rfl) ?_
  intro D t5 u5 h5 tk5 F5 N5 l5 l6
  dsimp only
  repeat (first | walk1 | (dsimp only; walk1))
  with_reducible rename Fr h₀ L _ m => kF9
  with_reducible rename News h₀ L _ (_ :: _ :: _ :: news) => kN9
  with_reducible rename _ ∧ _ ∧ AllLt _ news => l10
  exact hret _ [(_, _), (_, _), (_, _)] _ _ kF9 kN9 (fun p hp q hq => by
    rcases List.mem_cons.mp hp with rfl | hp
    · exact Nat.ne_of_gt (allLt_mem l10.2.2 q hq)
    rcases List.mem_cons.mp hp with rfl | hp
    · exact Nat.ne_of_gt (l5 q hq)
    · rw [List.mem_singleton.mp hp]; exact Nat.ne_of_gt (l7 q hq)) (.list (List.Mem.head _) rfl rfl (.cons (.str _ _) (.cons (.tuple (List.Mem.tail _ (List.Mem.head _)) rfl rfl (.cons (.str _ _) (.cons (.int _ _) .nil))) .nil)))
end Mine
end
theorem Mine.off_RComp2 : True := by
  w_top off
  trivial
section
open PySem PySem.W PyProof.Rows PySem.Calls PySem.Spec PyProof.Rows.LCg
set_option Elab.async false
set_option maxRecDepth 100000
namespace Mine
abbrev two (elt iter iter2 : Expr) (x y : Str) (px py : Pos) (scope : Scope) (pos : Pos) : Expr := .ListComp elt [⟨.Name x px, iter, [], 0⟩, ⟨.Name y py, iter2, [], 0⟩] scope pos
section
variable {elt iter iter2 : Expr} {x y : Str} {px py : Pos} {scope : Scope} {pos : Pos} {it acc : Value} {env : Env}
theorem turn_two0 : compTurn (two elt iter iter2 x y px py scope pos) 0 it acc env = (standAt iter.pos >>= fun _ => pyNext it >>= fun r => match r with
    | none => pure (.done .next)
    | some v => letOwnedTupleGo (.Name x px) it v >>= fun _ => assign (.Name x px) env v >>= fun _ =>
      (eval iter2 env >>= fun xv => standAt iter2.pos >>= fun _ => foldedSetIterable iter2 env xv >>= fun xv => holding [xv] (pyIter xv) >>= fun it2 =>
        runOwn (.compStart (two elt iter iter2 x y px py scope pos) 1 it2 acc env) env >>= fun _ =>
          again (.compLoop (two elt iter iter2 x y px py scope pos) 0 it acc env))) := by rfl
theorem turn_two1 : compTurn (two elt iter iter2 x y px py scope pos) 1 it acc env = (standAt iter2.pos >>= fun _ => pyNext it >>= fun r => match r with
    | none => pure (.done .next)
    | some v => letOwnedTupleGo (.Name y py) it v >>= fun _ => assign (.Name y py) env v >>= fun _ =>
      (eval elt env >>= fun xv => call (.builtin "list.append") [acc, xv] >>= fun _ => pure ()) >>= fun _ =>
          again (.compLoop (two elt iter iter2 x y px py scope pos) 1 it acc env)) := by rfl
end
section
variable {prog : Program} {w : World} {A : Around} {s : Shared} {elt iter iter2 : Expr} {x y : Str} {px py : Pos} {scope : Scope} {pos : Pos} {it acc : Value} {env : Env} {R : Result → Shared → Prop}
theorem noted_no {M : Model} {A : Around} {env : Env} {α : Type} {m : Sem α} {E : Value → Shared → Prop} {Q : α → Shared → Prop} {k : Value → Sem Unit} {s : Shared} (h : wpR M A m Q (fun _ _ => False) s) : wpR M A (m.onRaise k) Q E s :=
  wpR_onRaise (wpR_mono h (fun _ _ q => q) fun _ _ f => f.elim)
/-- one turn of the inner loop -/
theorem inner_turn (h : wpAny (model prog w) A (pyNext it) (fun r s₁ => match r with
      | none => R (.ok .next) s₁
      | some v => wpAny (model prog w) A (assign (.Name y py) env v) (fun _ s₂ => wpAny (model prog w) A (eval elt env) (fun xv s₃ =>
          wpAny (model prog w) A (call (.builtin "list.append") [acc, xv]) (fun _ s₄ => codeR (model prog w) A (.compLoop (two elt iter iter2 x y px py scope pos) 1 it acc env) R s₄) (fun _ _ => False) s₃) (fun _ _ => False) s₂) (fun _ _ => False) s₁) (fun _ _ => False) s) :
    codeR (model prog w) A (.compLoop (two elt iter iter2 x y px py scope pos) 1 it acc env) R s := by
  refine codeR_of_tree rfl ?_
  show wpR _ A ((compTurn (two elt iter iter2 x y px py scope pos) 1 it acc env).onRaise (fun x => do noteFrame x env; theTreesLotGoes x)) _ _ s
  refine noted_no (env := env) ?_
  rw [turn_two1]
  refine wpR_bind (wpR_standAt (wpR_bindA (wpAny_mono h (fun r s₁ h₁ => ?_) fun _ _ e => e)))
  cases r with
  | none => exact wpR_pure h₁
  | some v =>
    refine wpR_bind (wpR_pure ?_)
    refine wpR_bindA (wpAny_mono h₁ (fun _ s₂ h₂ => ?_) fun _ _ e => e)
    refine wpR_bind (wpR_bindA (wpAny_mono h₂ (fun xv s₃ h₃ => ?_) fun _ _ e => e))
    refine wpR_bindA (wpAny_mono h₃ (fun _ s₄ h₄ => ?_) fun _ _ e => e)
    exact wpR_pure (wpR_pure ⟨rfl, h₄⟩)
/-- one turn of the outer loop -/
theorem outer_turn (hs : ∀ x, foldedSetIterable iter2 env x = pure x)
    (h : wpAny (model prog w) A (pyNext it) (fun r s₁ => match r with
      | none => R (.ok .next) s₁
      | some v => wpAny (model prog w) A (assign (.Name x px) env v) (fun _ s₂ => wpR (model prog w) A (eval iter2 env) (fun xv s₃ =>
          wpAny (model prog w) A (pyIter xv) (fun it2 s₄ => codeR (model prog w) A (.compStart (two elt iter iter2 x y px py scope pos) 1 it2 acc env)
            (fun r s₅ => match r with | .ok _ => codeR (model prog w) A (.compLoop (two elt iter iter2 x y px py scope pos) 0 it acc env) R s₅ | .error _ => False) s₄) (fun _ _ => False) s₃) (fun _ _ => False) s₂) (fun _ _ => False) s₁) (fun _ _ => False) s) :
    codeR (model prog w) A (.compLoop (two elt iter iter2 x y px py scope pos) 0 it acc env) R s := by
  refine codeR_of_tree rfl ?_
  show wpR _ A ((compTurn (two elt iter iter2 x y px py scope pos) 0 it acc env).onRaise (fun x => do noteFrame x env; theTreesLotGoes x)) _ _ s
  refine noted_no (env := env) ?_
  rw [turn_two0]
  refine wpR_bind (wpR_standAt (wpR_bindA (wpAny_mono h (fun r s₁ h₁ => ?_) fun _ _ e => e)))
  cases r with
  | none => exact wpR_pure h₁
  | some v =>
    refine wpR_bind (wpR_pure ?_)
    refine wpR_bindA (wpAny_mono h₁ (fun _ s₂ h₂ => ?_) fun _ _ e => e)
    refine wpR_bind (wpR_mono h₂ (fun xv s₃ h₃ => ?_) fun _ _ e => e)
    refine wpR_bind (wpR_standAt (wpR_bindA (wpAny_of_eq (hs xv) ?_)))
    refine wpR_bind (wpR_holding (wpR_of_any (wpAny_mono h₃ (fun it2 s₄ h₄ => ?_) fun _ _ e => e)))
    refine wpR_bind ?_
    unfold runOwn
    refine noted_no (env := env) (wpR_run (codeR_mono h₄ fun r s₅ h₅ => ?_))
    cases r with
    | ok f => exact wpR_pure ⟨rfl, h₅⟩
    | error e => exact h₅.elim
theorem start_two (d : Nat) (hd : d < 2)
    (h0 : codeR (model prog w) A (.compLoop (two elt iter iter2 x y px py scope pos) d it acc env) R s)
    (h : wpAny (model prog w) A (pyIter it) (fun it' s' => codeR (model prog w) A (.compLoop (two elt iter iter2 x y px py scope pos) d it' acc env) R s') (fun _ _ => False) s) :
    codeR (model prog w) A (.compStart (two elt iter iter2 x y px py scope pos) d it acc env) R s := by
  refine codeR_of_tree rfl ?_
  have hdd : d = 0 ∨ d = 1 := by omega
  rcases hdd with rfl | rfl
  all_goals
    show wpR _ _ ((compStart (two elt iter iter2 x y px py scope pos) _ it acc env).onRaise (fun x => do noteFrame x env; standAt theWindowsPlace)) _ _ s
    refine noted_no (env := env) ?_
    unfold compStart
    show wpR _ _ (ask >>= _) _ _ s
    refine wpR_bindA (wpAny_askSetting ?_)
    split
    · exact wpR_pure ⟨rfl, h0⟩
    · exact wpR_bindA (wpAny_rule (wpR_bind (wpR_standAt (wpR_bindA (wpAny_mono h (fun it' s' h' => wpR_pure ⟨rfl, h'⟩) fun _ _ e => e)))))
end
section
variable {M : Model} {A : Around} {E : Value → Shared → Prop} {s : Shared} {env : Env}
theorem compR_free {e : Expr} {scope : Scope} {pos : Pos} {newAcc : Sem Value} {xv : Value} {g : Comprehension} {gs : List Comprehension} {cl : List (Str × Addr)} {Q : Value → Shared → Prop}
    (hcl : clausesOf e = g :: gs) (hs : ∀ x, foldedSetIterable g.iter env x = pure x) (hclos : closureFor scope env = pure cl)
    (hkind : scope.kind = .function) (hnames : ∀ x ∈ scope.names, x.2 = .local → scope.names.lookup x.1 = some .local)
    (h : wpAny M A (pyIter xv) (fun it s₂ => wpAny M A newAcc (fun acc s₃ =>
      wpAny M A (newFunctionEnv scope env.globals cl [] env.qual none .none (some env)) (fun cenv s₄ =>
        codeR M A (.compStart e 0 it acc { cenv with scope := relabel scope env }) (fun r s' => match r with
          | .ok _ => ∃ m, s'.heap.Ns cenv.locals m ∧ ∀ h', Heap.SameBut cenv.locals s'.heap h' → Q acc { s' with heap := h' }
          | .error _ => False) s₄) E s₃) E s₂) E s) :
    wpR M A (comprehension e scope env pos newAcc false (pure xv) none) Q E s := by
  unfold comprehension
  rw [hclos, hcl]
  refine wpR_bind (wpR_pure (wpR_bind (wpR_standAt (wpR_bindA (wpAny_of_eq (hs xv) ?_)))))
  refine wpR_bind (wpR_holding (wpR_of_any (wpAny_mono h (fun it s₂ h₂ => ?_) fun _ _ e => e)))
  refine wpR_bindA (wpAny_mono h₂ (fun acc s₃ h₃ => ?_) fun _ _ e => e)
  refine wpR_bind (wpR_pure (wpR_bindA (wpAny_mono h₃ (fun cenv s₄ h₄ => ?_) fun _ _ e => e)))
  dsimp only
  have hv : ∀ x ∈ (scope.names.filter fun x => (x.2 == .local || x.2 == .cell) && x.1 != (".0" : Str)).reverse, x.2 = .local →
      Env.kindOf { cenv with scope := relabel scope env } x.1 = some .local := fun x hx hl => lookup_relabel_local (hnames x (List.mem_filter.mp (List.mem_reverse.mp hx)).1 hl)
  refine wpR_holding (wpR_bind (wpR_attempt (wpR_holding (wpR_run (codeR_mono h₄ fun r s' hr => ?_)))))
  cases r with
  | ok f =>
    obtain ⟨m, hn, hr⟩ := hr
    exact wpR_of_any (wpAny_bind (wpAny_holding (wpAny_comp_letGo (cenv := { cenv with scope := relabel scope env }) hkind _ s' m hv hn fun h' m' _ hs' => wpAny_pure (hr h' hs'))))
  | error x => exact hr.elim
end
end Mine
end
theorem Mine.off_RComp1 : True := by
  w_top off
  trivial
section
open PySem PySem.W PyProof.Rows PySem.Calls PySem.Spec PyProof.Rows.LCg
set_option Elab.async false
set_option maxRecDepth 100000
namespace Mine
abbrev one (elt iter : Expr) (x : Str) (px : Pos) (scope : Scope) (pos : Pos) : Expr := .ListComp elt [⟨.Name x px, iter, [], 0⟩] scope pos
section
variable {elt iter : Expr} {x : Str} {px : Pos} {scope : Scope} {pos : Pos} {it acc : Value} {env : Env}
theorem turn_one : compTurn (one elt iter x px scope pos) 0 it acc env = (standAt iter.pos >>= fun _ => pyNext it >>= fun r => match r with
    | none => pure (.done .next)
    | some v => letOwnedTupleGo (.Name x px) it v >>= fun _ => assign (.Name x px) env v >>= fun _ =>
      (eval elt env >>= fun xv => call (.builtin "list.append") [acc, xv] >>= fun _ => pure ()) >>= fun _ =>
          again (.compLoop (one elt iter x px scope pos) 0 it acc env)) := by rfl
end
section
variable {prog : Program} {w : World} {A : Around} {s : Shared} {elt iter : Expr} {x : Str} {px : Pos} {scope : Scope} {pos : Pos} {it acc : Value} {env : Env} {R : Result → Shared → Prop}
/-- one turn of a comprehension whose element this layer walks -/
theorem one_turn (h : wpAny (model prog w) A (pyNext it) (fun r s₁ => match r with
      | none => R (.ok .next) s₁
      | some v => wpAny (model prog w) A (assign (.Name x px) env v) (fun _ s₂ => wpR (model prog w) A (eval elt env) (fun xv s₃ =>
          wpAny (model prog w) A (call (.builtin "list.append") [acc, xv]) (fun _ s₄ => codeR (model prog w) A (.compLoop (one elt iter x px scope pos) 0 it acc env) R s₄) (fun _ _ => False) s₃) (fun _ _ => False) s₂) (fun _ _ => False) s₁) (fun _ _ => False) s) :
    codeR (model prog w) A (.compLoop (one elt iter x px scope pos) 0 it acc env) R s := by
  refine codeR_of_tree rfl ?_
  show wpR _ A ((compTurn (one elt iter x px scope pos) 0 it acc env).onRaise (fun x => do noteFrame x env; theTreesLotGoes x)) _ _ s
  refine noted_no (env := env) ?_
  rw [turn_one]
  refine wpR_bind (wpR_standAt (wpR_bindA (wpAny_mono h (fun r s₁ h₁ => ?_) fun _ _ e => e)))
  cases r with
  | none => exact wpR_pure h₁
  | some v =>
    refine wpR_bind (wpR_pure ?_)
    refine wpR_bindA (wpAny_mono h₁ (fun _ s₂ h₂ => ?_) fun _ _ e => e)
    refine wpR_bind (wpR_bind (wpR_mono h₂ (fun xv s₃ h₃ => ?_) fun _ _ e => e))
    refine wpR_bindA (wpAny_mono h₃ (fun _ s₄ h₄ => ?_) fun _ _ e => e)
    exact wpR_pure (wpR_pure ⟨rfl, h₄⟩)
theorem start_one (h0 : codeR (model prog w) A (.compLoop (one elt iter x px scope pos) 0 it acc env) R s)
    (h : wpAny (model prog w) A (pyIter it) (fun it' s' => codeR (model prog w) A (.compLoop (one elt iter x px scope pos) 0 it' acc env) R s') (fun _ _ => False) s) :
    codeR (model prog w) A (.compStart (one elt iter x px scope pos) 0 it acc env) R s := by
  refine codeR_of_tree rfl ?_
  show wpR _ _ ((compStart (one elt iter x px scope pos) _ it acc env).onRaise (fun x => do noteFrame x env; standAt theWindowsPlace)) _ _ s
  refine noted_no (env := env) ?_
  unfold compStart
  show wpR _ _ (ask >>= _) _ _ s
  refine wpR_bindA (wpAny_askSetting ?_)
  split
  · exact wpR_pure ⟨rfl, h0⟩
  · exact wpR_bindA (wpAny_rule (wpR_bind (wpR_standAt (wpR_bindA (wpAny_mono h (fun it' s' h' => wpR_pure ⟨rfl, h'⟩) fun _ _ e => e)))))
end
section
variable {M : Model} {A : Around} {E : Value → Shared → Prop} {s : Shared} {env : Env}
/-- a comprehension from a walked source, stored under a name or handed on -/
theorem compR_use {e : Expr} {scope : Scope} {pos : Pos} {newAcc : Sem Value} {xv : Value} {g : Comprehension} {gs : List Comprehension} {cl : List (Str × Addr)} {use : Value → Sem Unit} {Q : Value → Shared → Prop}
    (hcl : clausesOf e = g :: gs) (hs : ∀ x, foldedSetIterable g.iter env x = pure x) (hclos : closureFor scope env = pure cl)
    (hkind : scope.kind = .function) (hnames : ∀ x ∈ scope.names, x.2 = .local → scope.names.lookup x.1 = some .local)
    (h : wpAny M A (pyIter xv) (fun it s₂ => wpAny M A newAcc (fun acc s₃ =>
      wpAny M A (newFunctionEnv scope env.globals cl [] env.qual none .none (some env)) (fun cenv s₄ =>
        codeR M A (.compStart e 0 it acc { cenv with scope := relabel scope env }) (fun r s' => match r with
          | .ok _ => wpAny M A (use acc) (fun _ s'' => ∃ m, s''.heap.Ns cenv.locals m ∧ ∀ h', Heap.SameBut cenv.locals s''.heap h' → Q .none { s'' with heap := h' }) E s'
          | .error _ => False) s₄) E s₃) E s₂) E s) :
    wpR M A (comprehension e scope env pos newAcc false (pure xv) (some use)) Q E s := by
  unfold comprehension
  rw [hclos, hcl]
  refine wpR_bind (wpR_pure (wpR_bind (wpR_standAt (wpR_bindA (wpAny_of_eq (hs xv) ?_)))))
  refine wpR_bind (wpR_holding (wpR_of_any (wpAny_mono h (fun it s₂ h₂ => ?_) fun _ _ e => e)))
  refine wpR_bindA (wpAny_standAt ?_)
  refine wpR_bindA (wpAny_mono h₂ (fun acc s₃ h₃ => ?_) fun _ _ e => e)
  refine wpR_bind (wpR_pure (wpR_bindA (wpAny_mono h₃ (fun cenv s₄ h₄ => ?_) fun _ _ e => e)))
  dsimp only
  have hv : ∀ x ∈ (scope.names.filter fun x => (x.2 == .local || x.2 == .cell) && x.1 != (".0" : Str)).reverse, x.2 = .local →
      Env.kindOf { cenv with scope := relabel scope env } x.1 = some .local := fun x hx hl => lookup_relabel_local (hnames x (List.mem_filter.mp (List.mem_reverse.mp hx)).1 hl)
  have hv' : ∀ x ∈ (scope.names.filter fun x => (x.2 == .local || x.2 == .cell) && x.1 != (".0" : Str)).reverse.drop 1 ++ (scope.names.filter fun x => (x.2 == .local || x.2 == .cell) && x.1 != (".0" : Str)).reverse.take 1,
      x.2 = .local → Env.kindOf { cenv with scope := relabel scope env } x.1 = some .local := fun x hx hl => by
    rcases List.mem_append.mp hx with h1 | h1
    · exact hv x (List.mem_of_mem_drop h1) hl
    · exact hv x (List.mem_of_mem_take h1) hl
  refine wpR_holding (wpR_bind (wpR_attempt (wpR_holding (wpR_run (codeR_mono h₄ fun r s' hr => ?_)))))
  cases r with
  | ok f =>
    refine wpR_of_any ?_
    refine wpAny_bind (wpAny_rule (wpAny_bind (wpAny_holding (wpAny_mono hr (fun _ s'' hr' => ?_) fun _ _ h' => h'))))
    obtain ⟨m, hn, hr'⟩ := hr'
    exact wpAny_bind (wpAny_comp_letGo (cenv := { cenv with scope := relabel scope env }) hkind _ s'' m hv' hn fun h' m' _ hs' => wpAny_pure (hr' h' hs'))
  | error x => exact hr.elim
end
section
variable {prog : Program} {w : World} {A : Around} {s₀ s : Shared} {elt iter : Expr} {x : Str} {px : Pos} {scope : Scope} {pos : Pos} {env : Env} {cl : List (Str × Addr)} {R : Result → Shared → Prop}
/-- what is asked of the turns -/
def Rest1 (prog : Program) (w : World) (A : Around) (h₀ : Heap) (L : Addr) (m : Str → Option Value) (env : Env) (elt : Expr) (x : Str) (scope : Scope) (cl : List (Str × Addr)) (s : Shared) (ax : Addr) (its : Array Value) (Fin : List Value → List (Addr × Obj) → Prop) :
    Nat → Nat → List Value → List (Addr × Obj) → Prop
  | 0, _, ys, news => Fin ys news
  | k + 1, i, ys, news => ∀ v I oI C oC D m₂ h tk, its[i]? = some v → NsObj oC m₂ → m₂ x = some v → Fr h₀ L h m → News h₀ L h ((I, oI) :: (C, oC) :: (D, lst ys) :: news) → Off3 I C D news → ((@Ne Nat I C) ∧ (@Ne Nat I D) ∧ (@Ne Nat C D)) →
    wpR (model prog w) A (eval elt (compEnvC scope cl C env)) (CompEnd h₀ L m { s with heap := h, toks := tk } I oI C oC D (lst ys) (SrcAt h₀ ax its)
      (fun y news' => Rest1 prog w A h₀ L m env elt x scope cl s ax its Fin k (i + 1) (ys ++ [y]) news')) (fun _ _ => False) { s with heap := h, toks := tk }
theorem one_loop {h₀ : Heap} {L C D I ax : Addr} {m : Str → Option Value} {its : Array Value} {Fin : List Value → List (Addr × Obj) → Prop} (hh : A.handled = none) (nax : ax ≠ I) (hsz : its.size ≤ sizeLine)
    (hkind : scope.kind = .function) (hx : scope.names.lookup x = some .local)
    (nIC : I ≠ C) (nID : I ≠ D) (nCD : C ≠ D) (hIL : L ≠ I) (hI₀ : h₀.get? I = none) (hCL : C ≠ L) (hC₀ : h₀.get? C = none) (hDL : D ≠ L) (hD₀ : h₀.get? D = none)
    (hR : ∀ h tk m' ys news', Fr h₀ L h m → News h₀ L h ((D, lst ys) :: news') → Off1 D news' → h.Ns C m' → (∀ p ∈ news', p.1 ≠ C) → Fin ys news' → R (.ok .next) { s₀ with heap := h, toks := tk }) :
    ∀ (k i : Nat), i + k = its.size → ∀ (h : Heap) (tk : Nat) (m' : Str → Option Value) (ys : List Value) (news' : List (Addr × Obj)), ys.length = i → (h.IsListIter I ax i ∧ h.IsList ax its) → Fr h₀ L h m → h.Ns C m' → News h₀ L h ((D, lst ys) :: news') →
      Off3 I C D news' → SrcAt h₀ ax its news' → Rest1 prog w A h₀ L m env elt x scope cl s₀ ax its Fin k i ys news' →
      codeR (model prog w) A (.compLoop (one elt iter x px scope pos) 0 (.ref I) (.ref D) (compEnvC scope cl C env)) R { s₀ with heap := h, toks := tk }
  | 0, i, hi, h, tk, m', ys, news', hyl, hst, F, hn, N, off, hS, hRest => by
    have W := Walks.list (prog := prog) (w := w) (A := A) hh I ax nax its
    obtain rfl : i = its.size := by omega
    refine one_turn (W.done _ _ _ hst fun h' tk' hk' => ?_)
    have off3 := off.mem
    exact hR h' tk' m' ys news' (fr_but F hk' hIL hI₀) (news_but N hk' fun p hp => by
      rcases List.mem_cons.mp hp with rfl | hp
      · exact Ne.symm nID
      · exact (off3 p hp).1) off.one (hn.at' fun o e => hk' _ o (by simpa using Ne.symm nIC) e) (fun p hp => (off3 p hp).2.1) hRest
  | k + 1, i, hi, h, tk, m', ys, news', hyl, hst, F, hn, N, off, hS, hRest => by
    have W := Walks.list (prog := prog) (w := w) (A := A) hh I ax nax its
    have off3 := off.mem
    refine one_turn (W.item i _ _ _ (by omega) hst fun v h₂ tk₂ hv hst₂ hk' => ?_)
    refine wpAny_assign_Name (wpAny_storeName_local (lookup_relabel_local hx) (hn.at' fun o e => hk' _ o (by simpa using Ne.symm nIC) e) (fun h₃ hn₃ hs₃ => ?_) (by simp [compEnvC, relabel, hkind]))
    have hlist : ax ≠ C := fun q => by
      rcases hS with ⟨o, e, _⟩ | ⟨o, hm, _⟩
      · rw [q, hC₀] at e; cases e
      · exact (off3 _ hm).2.1 q
    have hst₃ : h₃.IsListIter I ax (i + 1) ∧ h₃.IsList ax its := W.frame _ _ _ hst₂ fun b hb o e => hs₃.extBut b o (by
      rcases List.mem_cons.mp hb with rfl | hb
      · exact nIC
      · rw [List.mem_singleton.mp hb]; exact hlist) e
    obtain ⟨oI, heI, hoI⟩ := hst₃.1
    obtain ⟨oC, heC, hoC⟩ := ns_obj hn₃
    have F₃ : Fr h₀ L h₃ m := (fr_but F hk' hIL hI₀).change hs₃ hCL hC₀
    have N₂ : News h₀ L h₂ ((D, lst ys) :: news') := news_but N hk' fun p hp => by
      rcases List.mem_cons.mp hp with rfl | hp
      · exact Ne.symm nID
      · exact (off3 p hp).1
    have N₃ : News h₀ L h₃ ((I, oI) :: (C, oC) :: (D, lst ys) :: news') := fun p hp => by
      rcases List.mem_cons.mp hp with rfl | hp
      · exact ⟨heI, Ne.symm hIL, hI₀⟩
      · rcases List.mem_cons.mp hp with rfl | hp
        · exact ⟨heC, hCL, hC₀⟩
        · have z := N₂ p hp
          refine ⟨hs₃.extBut _ _ ?_ z.1, z.2⟩
          rcases List.mem_cons.mp hp with rfl | hp
          · exact Ne.symm nCD
          · exact (off3 p hp).2.1
    refine wpR_mono (hRest v I oI C oC D _ h₃ _ hv hoC (by simp) F₃ N₃ off ⟨nIC, nID, nCD⟩) (fun y s' h₄ => ?_) fun _ _ e => e
    obtain ⟨h₄, tk₄, news₄, rfl, F₄, N₄, off₄, hS₄, R₄⟩ := h₄
    have off4 := off₄.mem
    have zI := (N₄ (I, oI) List.mem_cons_self).1
    have zC := (N₄ (C, oC) (List.mem_cons_of_mem _ List.mem_cons_self)).1
    have zD := (N₄ (D, lst ys) (List.mem_cons_of_mem _ (List.mem_cons_of_mem _ List.mem_cons_self))).1
    have N₄' : News h₀ L h₄ news₄ := fun p hp => N₄ p (List.mem_cons_of_mem _ (List.mem_cons_of_mem _ (List.mem_cons_of_mem _ hp)))
    refine append_at (hsz := by rw [List.size_toArray, hyl]; exact Nat.le_trans (by omega) hsz) zD fun h₅ hs₅ hD₅ => ?_
    have hst₅ : h₅.IsListIter I ax (i + 1) ∧ h₅.IsList ax its := ⟨⟨oI, hs₅.extBut _ _ nID zI, hoI⟩, (hS₄.list F₄.keep N₄').at fun o e => by
      refine hs₅.extBut _ o (fun q => ?_) e
      rcases hS₄ with ⟨o', e', _⟩ | ⟨o', hm, _⟩
      · rw [q, hD₀] at e'; cases e'
      · exact (off4 _ hm).2.2 q⟩
    refine one_loop hh nax hsz hkind hx nIC nID nCD hIL hI₀ hCL hC₀ hDL hD₀ hR k (i + 1) (by omega) h₅ tk₄ _ (ys ++ [y]) news₄ (by rw [List.length_append, List.length_singleton, hyl]) hst₅ (F₄.change hs₅ hDL hD₀)
      ((hoC.ns zC).sameBut hs₅ nCD) (fun p hp => ?_) off₄ hS₄ R₄
    rcases List.mem_cons.mp hp with rfl | hp
    · exact ⟨hD₅.trans (congrArg some (lst_snoc ys y)), hDL, hD₀⟩
    · exact ⟨hs₅.extBut _ _ (off4 p hp).2.2 (N₄' p hp).1, (N₄' p hp).2⟩
/-- where the source comes from, and its turns -/
def Src1 (prog : Program) (w : World) (A : Around) (h₀ : Heap) (L : Addr) (m : Str → Option Value) (env : Env) (elt : Expr) (x : Str) (scope : Scope) (cl : List (Str × Addr)) (Fin : Shared → List Value → List (Addr × Obj) → Prop) (xv : Value) (s₁ : Shared) : Prop :=
  ∃ ax its n news, xv = .ref ax ∧ A.handled = none ∧ Fr h₀ L s₁.heap m ∧ News h₀ L s₁.heap news ∧ SrcAt h₀ ax its news ∧ its.size = n ∧ n ≤ sizeLine ∧
      ∀ g, Rest1 prog w A h₀ L m env elt x scope cl { s₁ with heap := g } ax its (Fin { s₁ with heap := g }) n 0 [] news
theorem one_block {h₀ : Heap} {L : Addr} {m : Str → Option Value} {s₁ : Shared} {ax : Addr} {its : Array Value} {news : List (Addr × Obj)} {E : Value → Shared → Prop} {Fin : Shared → List Value → List (Addr × Obj) → Prop} {RR : Value → Addr → Result → Shared → Prop} 
    (hcell : ∀ y ∈ scope.names, y.2 ≠ .cell) (hkind : scope.kind = .function) (hx : scope.names.lookup x = some .local)
    (hh : A.handled = none) (F : Fr h₀ L s₁.heap m) (N : News h₀ L s₁.heap news) (S : SrcAt h₀ ax its news) (hsz : its.size ≤ sizeLine)
    (R : ∀ g, Rest1 prog w A h₀ L m env elt x scope cl { s₁ with heap := g } ax its (Fin { s₁ with heap := g }) its.size 0 [] news)
    (hRR : ∀ g D C h tk m' ys news', Fr h₀ L h m → News h₀ L h ((D, lst ys) :: news') → Off1 D news' → h.Ns C m' → h₀.get? C = none → h₀.get? D = none → C ≠ L → D ≠ L → C ≠ D → (∀ p ∈ news', p.1 ≠ C) → Fin { s₁ with heap := g } ys news' → RR (.ref D) C (.ok .next) { s₁ with heap := h, toks := tk }) :
    wpAny (model prog w) A (pyIter (.ref ax)) (fun it s₂ => wpAny (model prog w) A (newList []) (fun acc s₃ => wpAny (model prog w) A (newFunctionEnv scope env.globals cl [] env.qual none .none (some env)) (fun cenv s₄ =>
      codeR (model prog w) A (.compStart (one elt iter x px scope pos) 0 it acc { cenv with scope := relabel scope env }) (RR acc cenv.locals) s₄) E s₃) E s₂) E s₁ := by
  have hl := S.list F.keep N
  have hlt : ax < s₁.heap.objs.size := by obtain ⟨_, e, _⟩ := hl; exact Heap.lt_size e
  refine wpAny_pyIter_list hl ?_
  have up : ∀ b o, s₁.heap.get? b = some o → (s₁.heap.push { cls := .type "list_iterator", data := .fields #[.ref ax, .int 0 0] }).get? b = some o := fun b o e => Heap.get?_push_of_some _ e
  have stI : (s₁.heap.push { cls := .type "list_iterator", data := .fields #[.ref ax, .int 0 0] }).IsListIter s₁.heap.objs.size ax 0 ∧ (s₁.heap.push { cls := .type "list_iterator", data := .fields #[.ref ax, .int 0 0] }).IsList ax its := ⟨⟨_, Heap.get?_push_size _ rfl, rfl, rfl⟩, hl.push _⟩
  have F₁ := F.keeps up
  have N₁ := N.grown up
  have hI₀ := next_is_new F
  have hIL : L ≠ s₁.heap.objs.size := Nat.ne_of_lt F.ns.lt
  have offI : ∀ p ∈ news, p.1 ≠ s₁.heap.objs.size := fun p hp => Nat.ne_of_lt (Heap.lt_size (N p hp).1)
  have nax : ax ≠ s₁.heap.objs.size := Nat.ne_of_lt hlt
  have hIlt : s₁.heap.objs.size < (s₁.heap.push { cls := .type "list_iterator", data := .fields #[.ref ax, .int 0 0] }).objs.size := by rw [Heap.size_push]; exact Nat.lt_succ_self _
  have haxlt : ax < (s₁.heap.push { cls := .type "list_iterator", data := .fields #[.ref ax, .int 0 0] }).objs.size := Nat.lt_trans hlt hIlt
  generalize s₁.heap.objs.size = I at *
  generalize s₁.heap.push { cls := .type "list_iterator", data := .fields #[.ref ax, .int 0 0] } = G at *
  refine wpAny_newObj_type (wpAny_newFunctionEnv hcell (by intro y hy; simp at hy) (fun h₁ hns₁ hsb₁ => ?_) hkind)
  dsimp only at hns₁ hsb₁ ⊢
  generalize hH2 : G.push { cls := .type "list", dict := none, data := .seq ([] : List Value).toArray } = H2 at hns₁ hsb₁ ⊢
  have hC : H2.objs.size = G.objs.size + 1 := by rw [← hH2, Heap.size_push]
  have hDC : G.objs.size ≠ H2.objs.size := by rw [hC]; exact Nat.ne_of_lt (Nat.lt_succ_self _)
  have below : ∀ b, b < G.objs.size → b ≠ H2.objs.size ∧ b ≠ G.objs.size := fun b hb => ⟨by rw [hC]; exact Nat.ne_of_lt (Nat.lt_succ_of_lt hb), Nat.ne_of_lt hb⟩
  have old : ∀ b o, G.get? b = some o → h₁.get? b = some o := fun b o e => hsb₁.extBut b o (below b (Heap.lt_size e)).1 (Heap.get?_push_of_some _ (hH2 ▸ Heap.get?_push_of_some _ e))
  have hacc : h₁.get? G.objs.size = some (lst []) := hsb₁.extBut _ _ hDC (Heap.get?_push_of_some _ (hH2 ▸ Heap.get?_push_size _ rfl))
  have fresh : ∀ a, G.objs.size ≤ a → G.get? a = none := fun a ha => by
    cases e : G.get? a with
    | none => rfl
    | some o' => exact absurd (Heap.lt_size e) (Nat.not_lt.mpr ha)
  have fresh₀ : ∀ a, G.objs.size ≤ a → h₀.get? a = none := fun a ha => by
    cases e : h₀.get? a with
    | none => rfl
    | some o' => have := F₁.keep a o' e; rw [fresh a ha] at this; cases this
  have hD₀ : h₀.get? G.objs.size = none := fresh₀ _ (Nat.le_refl _)
  have hC₀ : h₀.get? H2.objs.size = none := fresh₀ _ (by rw [hC]; exact Nat.le_succ _)
  have hLlt : L < G.objs.size := F₁.ns.lt
  have hDL : G.objs.size ≠ L := Ne.symm (below L hLlt).2
  have hCL : H2.objs.size ≠ L := Ne.symm (below L hLlt).1
  have hCI : I ≠ H2.objs.size := (below I hIlt).1
  have hDI : I ≠ G.objs.size := (below I hIlt).2
  have off₀ : Off3 I H2.objs.size G.objs.size news := Off3.of fun p hp => ⟨offI p hp, (below _ (Heap.lt_size (N₁ p hp).1)).1, (below _ (Heap.lt_size (N₁ p hp).1)).2⟩
  have st₁ : h₁.IsListIter I ax 0 ∧ h₁.IsList ax its := ⟨stI.1.at fun o e => old _ o e, stI.2.at fun o e => old _ o e⟩
  have loop := one_loop (prog := prog) (w := w) (A := A) (elt := elt) (iter := iter) (x := x) (px := px) (scope := scope) (pos := pos) (env := env) (cl := cl)
    (s₀ := { s₁ with heap := G }) (R := RR (.ref G.objs.size) H2.objs.size) (h₀ := h₀) (L := L) (C := H2.objs.size) (D := G.objs.size) (I := I) (m := m) (its := its) (Fin := Fin { s₁ with heap := G }) hh nax hsz hkind hx hCI hDI (Ne.symm hDC) hIL hI₀ hCL hC₀ hDL hD₀
    (fun h tk m' ys news' F' N' o1 hn offC fin => hRR G _ _ h tk m' ys news' F' N' o1 hn hC₀ hD₀ hCL hDL (Ne.symm hDC) offC fin) its.size 0 (Nat.zero_add _) h₁ (s₁.toks + ([] : List (Str × Value)).length) _ [] news rfl st₁ (F₁.keeps old) hns₁ (fun p hp => by
        rcases List.mem_cons.mp hp with rfl | hp
        · exact ⟨hacc, hDL, hD₀⟩
        · exact ⟨old _ _ (N₁ p hp).1, (N₁ p hp).2⟩) off₀ S (R G)
  exact start_one loop ((Walks.list (prog := prog) (w := w) (A := A) hh I ax nax its).self 0 _ _ _ st₁ loop)
theorem ListComp_R1 {h₀ : Heap} {L : Addr} {m : Str → Option Value} {E : Value → Shared → Prop} {Q : Value → Shared → Prop} 
    (hclos : closureFor scope env = pure cl) (hcell : ∀ y ∈ scope.names, y.2 ≠ .cell) (hkind : scope.kind = .function)
    (hnames : ∀ y ∈ scope.names, y.2 = .local → scope.names.lookup y.1 = some .local) (hx : scope.names.lookup x = some .local)
    (h : wpR (model prog w) A (eval iter env) (Src1 prog w A h₀ L m env elt x scope cl (fun s₂ => FinE h₀ L m s₂ Q)) E s)
    (hs : ∀ x, foldedSetIterable iter env x = pure x := by intro _; rfl) :
    wpR (model prog w) A (eval (one elt iter x px scope pos) env) Q E s := by
  rw [eval_ListComp]
  refine R_comp (wpR_mono h (fun xv s₁ h₁ => ?_) fun _ _ e => e)
  obtain ⟨ax, its, n, news, rfl, hh, F, N, S, rfl, hsz, R⟩ := h₁
  refine compR_free rfl hs hclos hkind hnames ?_
  refine one_block (Fin := fun s₂ => FinE h₀ L m s₂ Q) (RR := fun acc C r s' => match r with
      | .ok _ => ∃ m, s'.heap.Ns C m ∧ ∀ h', Heap.SameBut C s'.heap h' → Q acc { s' with heap := h' }
      | .error _ => False) hcell hkind hx hh F N S hsz R ?_
  intro g D C h tk m' ys news' F' N' o1 hn hC₀ hD₀ hCL hDL hCD offC fin
  refine ⟨m', hn, fun h'' hs'' => fin D h'' tk (F'.change hs'' hCL hC₀) (fun p hp => ?_) o1⟩
  refine ⟨hs''.extBut _ _ ?_ (N' p hp).1, (N' p hp).2⟩
  rcases List.mem_cons.mp hp with rfl | hp
  · exact Ne.symm hCD
  · exact offC p hp
theorem Assign_ListComp_R1 {h₀ : Heap} {L : Addr} {m : Str → Option Value} {E : Value → Shared → Prop} {y : Str} {py spos : Pos} {Q : Flow → Shared → Prop} (hLe : env.locals = L)
    (hsw : swapsWith (one elt iter x px scope pos) (some (.Name y py)) spos.line env = pure true)
    (hclos : closureFor scope env = pure cl) (hcell : ∀ z ∈ scope.names, z.2 ≠ .cell) (hkind : scope.kind = .function)
    (hnames : ∀ z ∈ scope.names, z.2 = .local → scope.names.lookup z.1 = some .local) (hx : scope.names.lookup x = some .local)
    (hy : env.kindOf y = some .local) (hp : (env.scope.kind == .class || (env.scope.kind == .module && env.locals != env.globals)) = false)
    (h : wpR (model prog w) A (eval iter env) (Src1 prog w A h₀ L m env elt x scope cl (fun s₂ => FinA h₀ L m s₂ y Q)) E s)
    (hs : ∀ x, foldedSetIterable iter env x = pure x := by intro _; rfl) :
    wpR (model prog w) A (exec (.Assign [.Name y py] (one elt iter x px scope pos) spos) env) Q E s := by
  subst hLe
  rw [exec_Assign_Name_used _ _ _ _ hsw]
  refine wpR_bind (wpR_standAt (wpR_bind ?_))
  show wpR _ A (do let _ ← comprehension (one elt iter x px scope pos) scope env _ (newList []) false (eval iter env) (some (assign (.Name y py) env))) _ _ s
  refine wpR_bind (wpR_mono (R_comp (Q := fun _ s' => Q .next s') (wpR_mono h (fun xv s₁ h₁ => ?_) fun _ _ e => e)) (fun _ s' hq => wpR_pure (wpR_pure hq)) fun _ _ e => e)
  obtain ⟨ax, its, n, news, rfl, hh, F, N, S, rfl, hsz, R⟩ := h₁
  refine compR_use rfl hs hclos hkind hnames ?_
  refine one_block (Fin := fun s₂ => FinA h₀ env.locals m s₂ y Q) (RR := fun acc C r s' => match r with
      | .ok _ => wpAny (model prog w) A (assign (.Name y py) env acc) (fun _ s'' => ∃ m, s''.heap.Ns C m ∧ ∀ h', Heap.SameBut C s''.heap h' → Q .next { s'' with heap := h' }) E s'
      | .error _ => False) hcell hkind hx hh F N S hsz R ?_
  intro g D C h' tk m' ys news' F' N' o1 hn hC₀ hD₀ hCL hDL hCD offC fin
  show wpAny _ A (assign (.Name y py) env (.ref D)) _ _ _
  refine wpAny_assign_Name (wpAny_storeName_local hy F'.ns (fun h₂ hn₂ hs₂ => ?_) hp)
  have hL₀ : h₀.get? env.locals = none := Heap.get?_none_of_le F'.above
  have F₂ : Fr h₀ env.locals h₂ (fun z => if z = y then some (.ref D) else m z) := ⟨hn₂, fun b o e => hs₂.extBut b o (fun q => by rw [q, hL₀] at e; cases e) (F'.keep b o e), F'.above⟩
  refine ⟨m', hn.sameBut hs₂ hCL, fun h'' hs'' => fin D h'' _ (F₂.change hs'' hCL hC₀) (fun p hp => ?_) o1⟩
  have z : h₂.get? p.1 = some p.2 := hs₂.extBut _ _ (N' p hp).2.1 (N' p hp).1
  refine ⟨hs''.extBut _ _ ?_ z, (N' p hp).2⟩
  rcases List.mem_cons.mp hp with rfl | hp
  · exact Ne.symm hCD
  · exact offC p hp
end
end Mine
end
theorem Mine.off_RHeld : True := by
  w_top off
  trivial
section
open PySem PySem.W PyProof.Rows PySem.Calls PySem.Spec PyProof.Rows.LCg
set_option Elab.async false
set_option maxRecDepth 100000
namespace Mine
theorem mem_app {α : Type} {p : α} {l a b : List α} (h : p ∈ l ++ a) : p ∈ l ++ (a ++ b) := by
  rcases List.mem_append.mp h with h | h
  · exact List.mem_append_left _ h
  · exact List.mem_append_right _ (List.mem_append_left _ h)
theorem srcAt_mono {h₀ : Heap} {ax : Addr} {its : Array Value} {n n' : List (Addr × Obj)} (k : ∀ p ∈ n, p ∈ n') (S : SrcAt h₀ ax its n) : SrcAt h₀ ax its n' := by
  rcases S with h | ⟨o, hm, r⟩
  · exact .inl h
  · exact .inr ⟨o, k _ hm, r⟩
theorem intsAre_at : ∀ {vs : List Value} {ns : List Int}, IntsAre vs ns → ∀ (i : Nat) (v : Value), vs[i]? = some v → ∃ k t, v = .int k t ∧ ns[i]? = some k
  | _, _, .nil, i, v, h => by simp at h
  | _, _, .cons k t r, 0, v, h => by simp at h; exact ⟨k, t, h.symm, rfl⟩
  | _, _, .cons k t r, i + 1, v, h => by simp at h; simpa using intsAre_at r i v h
section
variable {prog : Program} {w : World} {A : Around} {s : Shared} {elt : Expr} {x : Str} {scope : Scope} {env : Env} {cl : List (Str × Addr)}
/-- a comprehension over numbers whose elements are new objects: what they hold -/
theorem rest_held {h₀ : Heap} {L ax : Addr} {m : Str → Option Value} {its : Array Value} {base : List (Addr × Obj)} {Fin : List Value → List (Addr × Obj) → Prop} (ws : List Int) (dat : Int → PyData) (hI : IntsAre its.toList ws) (hS : SrcAt h₀ ax its base)
    (turn : ∀ (k : Int) (t : Tok) I oI C oC D m₂ (ys : List Value) (nw : List (Addr × Obj)) h tk, k ∈ ws → NsObj oC m₂ → m₂ x = some (.int k t) → Fr h₀ L h m → News h₀ L h ((I, oI) :: (C, oC) :: (D, lst ys) :: (base ++ nw)) → Off3 I C D (base ++ nw) → ((@Ne Nat I C) ∧ (@Ne Nat I D) ∧ (@Ne Nat C D)) →
      wpR (model prog w) A (eval elt (compEnvC scope cl C env)) (fun y s' => ∃ h' tk' nw', s' = { s with heap := h', toks := tk' } ∧ Fr h₀ L h' m ∧ News h₀ L h' (nw' ++ ((I, oI) :: (C, oC) :: (D, lst ys) :: (base ++ nw))) ∧
        (∀ p ∈ nw', p.1 ≠ I ∧ p.1 ≠ C ∧ p.1 ≠ D) ∧ Held nw' y (dat k)) (fun _ _ => False) { s with heap := h, toks := tk })
    (fin : ∀ ys nw, HeldAll (base ++ nw) ys (ws.map dat) → Fin ys (base ++ nw)) : Rest1 prog w A h₀ L m env elt x scope cl s ax its Fin its.size 0 [] base := by
  have hlen : its.size = ws.length := by rw [← hI.length, Array.length_toList]
  have key : ∀ (j i : Nat) (ys : List Value) (nw : List (Addr × Obj)), i + j = its.size → HeldAll (base ++ nw) ys ((ws.take i).map dat) → Rest1 prog w A h₀ L m env elt x scope cl s ax its Fin j i ys (base ++ nw) := by
    intro j
    induction j with
    | zero =>
      intro i ys nw hi hy
      have e : i = ws.length := by omega
      rw [e, List.take_length] at hy
      exact fin ys nw hy
    | succ j ih =>
      intro i ys nw hi hy
      intro v I oI C oC D m₂ h tk hv hC hx F N off ne
      obtain ⟨k, t, rfl, hk⟩ := intsAre_at hI i v (by rw [Array.getElem?_toList]; exact hv)
      refine wpR_mono (turn k t I oI C oC D m₂ ys nw h tk (List.mem_of_getElem? hk) hC hx F N off ne) (fun y s' hq => ?_) fun _ _ e => e
      obtain ⟨h', tk', nw', rfl, F', N', off', hH⟩ := hq
      have sub : ∀ p ∈ base ++ nw, p ∈ base ++ (nw ++ nw') := fun p hp => by
        rcases List.mem_append.mp hp with h | h
        · exact List.mem_append_left _ h
        · exact List.mem_append_right _ (List.mem_append_left _ h)
      have sub' : ∀ p ∈ nw', p ∈ base ++ (nw ++ nw') := fun p hp => List.mem_append_right _ (List.mem_append_right _ hp)
      refine ⟨h', tk', base ++ (nw ++ nw'), rfl, F', fun p hp => N' p ?_, Off3.of fun p hp => ?_, srcAt_mono (fun p hp => List.mem_append_left _ hp) hS, ?_⟩
      · rcases List.mem_cons.mp hp with h | hp
        · exact List.mem_append_right _ (h ▸ List.Mem.head _)
        rcases List.mem_cons.mp hp with h | hp
        · exact List.mem_append_right _ (h ▸ .tail _ (.head _))
        rcases List.mem_cons.mp hp with h | hp
        · exact List.mem_append_right _ (h ▸ .tail _ (.tail _ (.head _)))
        rcases List.mem_append.mp hp with h | hp
        · exact List.mem_append_right _ (.tail _ (.tail _ (.tail _ (List.mem_append_left _ h))))
        rcases List.mem_append.mp hp with h | hp
        · exact List.mem_append_right _ (.tail _ (.tail _ (.tail _ (List.mem_append_right _ h))))
        · exact List.mem_append_left _ hp
      · rcases List.mem_append.mp hp with h | hp
        · exact off.mem p (List.mem_append_left _ h)
        rcases List.mem_append.mp hp with h | hp
        · exact off.mem p (List.mem_append_right _ h)
        · exact off' p hp
      · refine ih (i + 1) (ys ++ [y]) (nw ++ nw') (by omega) ?_
        have e : (ws.take (i + 1)).map dat = (ws.take i).map dat ++ [dat k] := by
          rw [List.take_add_one, hk]; simp
        rw [e]
        exact (HeldAll.mono sub hy).snoc (Held.mono sub' hH)
  have := key its.size 0 [] [] (by omega) (by simpa using HeldAll.nil)
  rwa [List.append_nil] at this
end
end Mine
end
theorem Mine.off_L2h : True := by
  w_top off
  trivial
section
open PySem PySem.W PyProof.Rows PySem.Calls PyProof.Rows.LCg
set_option Elab.async false
set_option maxRecDepth 100000
set_option maxHeartbeats 8000000
namespace Mine
def wl48 : List Int := [1, 2, 3, 4, 6, 8, 12, 16, 24, 48]
theorem wl48_ok {k : Int} (h : k ∈ wl48) : ∃ n : Nat, k = n ∧ 0 < n ∧ n ∣ 48 ∧ n ≤ 48 := by
  simp only [wl48, List.mem_cons, List.not_mem_nil, or_false] at h
  rcases h with rfl | rfl | rfl | rfl | rfl | rfl | rfl | rfl | rfl | rfl
  · exact ⟨1, rfl, by decide, by decide, by decide⟩
  · exact ⟨2, rfl, by decide, by decide, by decide⟩
  · exact ⟨3, rfl, by decide, by decide, by decide⟩
  · exact ⟨4, rfl, by decide, by decide, by decide⟩
  · exact ⟨6, rfl, by decide, by decide, by decide⟩
  · exact ⟨8, rfl, by decide, by decide, by decide⟩
  · exact ⟨12, rfl, by decide, by decide, by decide⟩
  · exact ⟨16, rfl, by decide, by decide, by decide⟩
  · exact ⟨24, rfl, by decide, by decide, by decide⟩
  · exact ⟨48, rfl, by decide, by decide, by decide⟩
def dueOf (x : Str) (k : Int) : PyData := .list [.str (roundOf x k.toNat), .list [.str (Str.ofString "refused"), .str (roundOf x k.toNat)]]
theorem law2_stage8 (w : World) (mean : ExcName → Option Value) (mg mb : Str → Option Value) (h₀ : Heap) (L fa Dw : Addr) (cd : Value) (ws : List Value) (x : Str) (tx : Tok) (hp : Heap) (tk0 : Nat) (s : Shared) (Q : Flow → Shared → Prop) (o1 o2 : Obj) (m : Str → Option Value) (hx : x.length = 48) (hI : IntsAre ws wl48) :
  ∀ (K0 : Below callerA h₀ [] h₀) (X : (hd2.heap_39 w.params).In h₀) (T : Top hd2.view_39 (looseW hd2.view_39 []) mean mg mb h₀)
  (F : Fr h₀ L hp (fun y => if y = Str.ofString "widths" then some (.ref Dw) else m y)) (N : News h₀ L hp [(Dw, lst ws), (L + 1 + 1, o2), (L + 1, o1)]) (c1 : o1.data = .cell (some (.str x tx)))
  (k : ∀ (D : Addr) (ys : List Value) (nw : List (Addr × Obj)) (h' : Heap) (tk : Nat), HeldAll ([(Dw, lst ws), (L + 1 + 1, o2), (L + 1, o1)] ++ nw) ys (wl48.map (dueOf x)) → Fr h₀ L h' (fun y => if y = Str.ofString "due" then some (.ref D) else if y = Str.ofString "widths" then some (.ref Dw) else m y) →
    News h₀ L h' ((D, lst ys) :: ([(Dw, lst ws), (L + 1 + 1, o2), (L + 1, o1)] ++ nw)) → 
    wpR (model PySem.Challenge.rw_pe0048_02.row.prog w) (callerA.deeper (envOfC law2_d.name law2_d.scope L fa cd)) (execs law2_d.body.tail.tail.tail.tail.tail.tail.tail.tail (envOfC law2_d.name law2_d.scope L fa cd)) Q (fun _ _ => False) { s with heap := h', toks := tk }),
  wpR (model PySem.Challenge.rw_pe0048_02.row.prog w) (callerA.deeper (envOfC law2_d.name law2_d.scope L fa cd)) (execs law2_d.body.tail.tail.tail.tail.tail.tail.tail (envOfC law2_d.name law2_d.scope L fa cd)) Q (fun _ _ => False) { s with heap := hp, toks := tk0 } := by
  k_fill
  dsimp only [law2_d, recOf, List.tail_cons]
  intro K0 X T F N c1 k
  refine R_stmtR ?_
  generalize hE : (fun (_ : Value) (_ : Shared) => False) = E0 at k ⊢
  generalize hk : wpR (model PySem.Challenge.rw_pe0048_02.row.prog w) _ (execs _ _) Q E0 = K9 at k ⊢
  k_dflt (refine Assign_ListComp_R1 (h₀ := h₀) (L := L) (m := fun y => if y = Str.ofString "widths" then some (.ref Dw) else m y) (by rfl) (by with_unfolding_all rfl) (by with_unfolding_all rfl) (by decide) (by rfl) (by decide) (by rfl) (by rfl) (by rfl) (wpR_of_any ?_))
  walk1
  refine ⟨Dw, ws.toArray, ws.toArray.size, _, rfl, rfl, F, N, .inr ⟨_, List.Mem.head _, rfl, _, rfl⟩, rfl, by rw [sizeLine_eq, List.size_toArray, hI.length]; decide, fun g => ?_⟩
  refine rest_held wl48 (dueOf x) (by simpa using hI) (.inr ⟨_, List.Mem.head _, rfl, _, rfl⟩) ?_ ?_
  · intro k0 t I oI C oC D m₂ ys nw h tk hkm hC hxk F N off ne
    obtain ⟨n, rfl, hn0, hnd, hnle⟩ := wl48_ok hkm
    simp only [List.cons_append, List.nil_append] at N off ⊢
    simp only [LCg.Off3] at off
    subst hE
    refine wpR_of_any ?_
    iterate 12 (first | walk1 | (dsimp only; walk1))
    refine round_d w mean mg mb _ x n _ _ hn0 (by rw [hx]; exact hnd) (by omega) (by omega) _ _ _ _ _ fa cd _ [] callerA h₀ h₀ L _ _ _ _ K0 (by assumption) X (by assumption) T rfl trivial (Nat.le_of_ble_eq_true rfl) (Nat.le_of_ble_eq_true rfl) ?_
    intro t1 h1 tk1 F1 N1
    dsimp only
    iterate 15 (first | walk1 | (dsimp only; walk1))
    refine round_d w mean mg mb _ x n _ _ hn0 (by rw [hx]; exact hnd) (by omega) (by omega) _ _ _ _ _ fa cd _ [] callerA h₀ h₀ L _ _ _ _ K0 (by assumption) X (by assumption) T rfl trivial (Nat.le_of_ble_eq_true rfl) (Nat.le_of_ble_eq_true rfl) ?_
    intro t1 h1 tk1 F1 N1
    dsimp only
    iterate 4 (first | walk1 | (dsimp only; walk1))
    with_reducible rename Fr h₀ L _ _ => F9
    with_reducible rename News h₀ L _ (_ :: _ :: (I, oI) :: _) => N9
    with_reducible rename _ ∧ _ ∧ _ ∧ _ ∧ _ ∧ _ ∧ _ ∧ AllLt _ nw => l9
    with_reducible rename _ ∧ _ ∧ _ ∧ _ ∧ _ ∧ _ ∧ AllLt _ nw => l8
    refine ⟨_, _, [(_, _), (_, _)], rfl, F9, N9, fun p hp => ?_, .list (.head _) rfl rfl (.two (.str _ _) (.list (.tail _ (.head _)) rfl rfl (.two (.str _ _) (.str _ _))))⟩
    rcases List.mem_cons.mp hp with rfl | hp
    · exact ⟨Nat.ne_of_gt l9.2.1, Nat.ne_of_gt l9.2.2.1, Nat.ne_of_gt l9.2.2.2.1⟩
    · rw [List.mem_singleton.mp hp]
      exact ⟨Nat.ne_of_gt l8.1, Nat.ne_of_gt l8.2.1, Nat.ne_of_gt l8.2.2.1⟩
  · intro ys nw hH
    unfold LCg.FinA
    intro D h tk F N o1
    subst hk
    subst hE
    exact k _ _ _ _ _ hH F N
end Mine
end
theorem Mine.off_L2i : True := by
  w_top off
  trivial
section
open PySem PySem.W PyProof.Rows PySem.Calls PyProof.Rows.LCg
set_option Elab.async false
set_option maxRecDepth 100000
set_option maxHeartbeats 8000000
namespace Mine
/-- what _law_heard tells of a reply by a width: read to its end, or refused -/
def HeardAs (x : Str) (k : Int) (d : PyData) : Prop :=
  (∃ l, (turnW x k.toNat).cps.toList = 50 :: 53 :: 55 :: 32 :: 34 :: l ∧ d = .list [.str (turnW x k.toNat), .str ⟨(unq l).toArray⟩]) ∨
  ((Txt.slice (turnW x k.toNat) none (some 3) != Str.ofString "257") = true ∧ d = .list [.str (turnW x k.toNat), .list [.str (Str.ofString "refused"), .str (turnW x k.toNat)]])
theorem heard257 (w : World) (mean : ExcName → Option Value) (mg mb : Str → Option Value) (x : Str) (tx : Tok) (k : Int) (tw : Tok) (d : PyData)
   (h256 : ∀ c ∈ x.cps.toList, c < 256) (hx : x.length = 48) (hk : k ∈ wl48) (hd : HeardAs x k d) (news : List (Addr × Obj)) (env : Env) (h₀ : Heap) (L : Addr) (m : Str → Option Value) (s : Shared) (Q : Value → Shared → Prop)
   (hf : env.frame = some L) (hke : env.scope.kind = .function) (B : Below callerA h₀ [] h₀) (F : Fr h₀ L s.heap m) (X : (hd2.heap_39 w.params).In h₀) (N : News h₀ L s.heap news) (T : Top hd2.view_39 (looseW hd2.view_39 []) mean mg mb h₀) 
   (hret : ∀ (r : Value) (nw : List (Addr × Obj)) (h' : Heap) (tk' : Nat), Fr h₀ L h' m → News h₀ L h' (nw ++ news) → (∀ p ∈ nw, ∀ q ∈ news, p.1 ≠ q.1) → Held nw r d → Q r { s with heap := h', toks := tk' }) :
   wpR (model PySem.Challenge.rw_pe0048_02.row.prog w) (callerA.deeper env) (call (.ref 89) [.str x tx, .int k tw, .bool false]) Q (fun _ _ => False) s := by
  obtain ⟨n, rfl, hn0, hnd, hnle⟩ := wl48_ok hk
  rcases hd with ⟨l, hl, rfl⟩ | ⟨hl, rfl⟩
  · exact heard_ok257 w mean mg mb x tx n tw l h256 (by omega) (by omega) (by omega) (by omega) (by rw [Int.toNat_natCast, hx]; exact hnd) hl news env h₀ L m s Q hf hke B F X N T hret
  · exact heard_bad257 w mean mg mb x tx n tw h256 (by omega) (by omega) (by omega) (by omega) (by rw [Int.toNat_natCast, hx]; exact hnd) hl news env h₀ L m s Q hf hke B F X N T hret
theorem law2_stage9 (w : World) (mean : ExcName → Option Value) (mg mb : Str → Option Value) (h₀ : Heap) (L fa Dw Dd : Addr) (cd : Value) (ws ds : List Value) (x a b : Str) (tx ta tb : Tok) (dat : Int → PyData) (nwd : List (Addr × Obj)) (hp : Heap) (tk0 : Nat) (s : Shared) (Q : Flow → Shared → Prop) (o1 o2 : Obj) (m : Str → Option Value) (hx : x.length = 48) (h256 : ∀ c ∈ x.cps.toList, c < 256) (hI : IntsAre ws wl48)
  (hda : ∀ k ∈ wl48, HeardAs x k (dat k)) (heq : PyData.eqv (.list (wl48.map dat)) (.list ([.list [.str x, .str a]] ++ ((wl48.map (dueOf x)).drop 1).take 8 ++ [.list [.str (rev x), .str b]])) = true)
  (hsl : SeqAt.shaped (.list (wl48.map dat)) = true) (hsr : SeqAt.shaped (.list ([.list [.str x, .str a]] ++ ((wl48.map (dueOf x)).drop 1).take 8 ++ [.list [.str (rev x), .str b]])) = true) :
  ∀ (K0 : Below callerA h₀ [] h₀) (X : (hd2.heap_39 w.params).In h₀) (T : Top hd2.view_39 (looseW hd2.view_39 []) mean mg mb h₀)
  (F : Fr h₀ L hp (fun y => if y = Str.ofString "one" then some (.str a ta) else if y = Str.ofString "two" then some (.str b tb) else if y = Str.ofString "due" then some (.ref Dd) else if y = Str.ofString "widths" then some (.ref Dw) else m y)) (N : News h₀ L hp ((Dd, lst ds) :: (Dw, lst ws) :: (L + 1 + 1, o2) :: (L + 1, o1) :: nwd)) (c1 : o1.data = .cell (some (.str x tx)))
  (hD : HeldAll ((Dw, lst ws) :: (L + 1 + 1, o2) :: (L + 1, o1) :: nwd) ds (wl48.map (dueOf x)))
  (k : ∀ (h' : Heap) (tk : Nat), Fr h₀ L h' (fun y => if y = Str.ofString "one" then some (.str a ta) else if y = Str.ofString "two" then some (.str b tb) else if y = Str.ofString "due" then some (.ref Dd) else if y = Str.ofString "widths" then some (.ref Dw) else m y) →
    News h₀ L h' [(L + 1 + 1, o2), (L + 1, o1)] → 
    wpR (model PySem.Challenge.rw_pe0048_02.row.prog w) (callerA.deeper (envOfC law2_d.name law2_d.scope L fa cd)) (execs law2_d.body.tail.tail.tail.tail.tail.tail.tail.tail.tail (envOfC law2_d.name law2_d.scope L fa cd)) Q (fun _ _ => False) { s with heap := h', toks := tk }),
  wpR (model PySem.Challenge.rw_pe0048_02.row.prog w) (callerA.deeper (envOfC law2_d.name law2_d.scope L fa cd)) (execs law2_d.body.tail.tail.tail.tail.tail.tail.tail.tail (envOfC law2_d.name law2_d.scope L fa cd)) Q (fun _ _ => False) { s with heap := hp, toks := tk0 } := by
  k_fill
  dsimp only [law2_d, recOf, List.tail_cons]
  intro K0 X T F N c1 hD k
  refine R_stmtR (R_if (R_cmp ?_))
  k_dflt (refine ListComp_R1 (h₀ := h₀) (L := L) (m := fun y => if y = Str.ofString "one" then some (.str a ta) else if y = Str.ofString "two" then some (.str b tb) else if y = Str.ofString "due" then some (.ref Dd) else if y = Str.ofString "widths" then some (.ref Dw) else m y) (by with_unfolding_all rfl) (by decide) (by rfl) (by decide) (by rfl) (wpR_of_any ?_))
  walk1
  refine ⟨Dw, ws.toArray, ws.toArray.size, _, rfl, rfl, F, N, .inr ⟨_, .tail _ (.head _), rfl, _, rfl⟩, rfl, by rw [sizeLine_eq, List.size_toArray, hI.length]; decide, fun g => ?_⟩
  refine rest_held wl48 dat (by simpa using hI) (.inr ⟨_, .tail _ (.head _), rfl, _, rfl⟩) ?_ ?_
  · intro k0 t I oI C oC D m₂ ys nw h tk hkm hC hxk F N off ne
    simp only [List.cons_append, List.nil_append] at N off ⊢
    simp only [LCg.Off3] at off
    refine R_Call ?_
    walk1
    refine R_args_fn (R_args_cons (wpR_of_any ?_))
    walk1
    refine R_args_cons (wpR_of_any ?_)
    walk1
    refine R_args_cons (wpR_of_any ?_)
    walk1
    refine R_args_nil ⟨isFn_K X (by assumption) (by k_is), ?_⟩
    refine heard257 w mean mg mb x _ _ _ _ h256 hx hkm (hda _ hkm) _ _ _ _ _ _ _ rfl rfl K0 (by assumption) X (by assumption) T ?_
    intro r nw' h' tk' F' N' hne hH
    refine ⟨_, _, nw', rfl, F', N', fun p hp => ?_, hH⟩
    exact ⟨hne p hp (I, oI) (.head _), hne p hp (C, oC) (.tail _ (.head _)), hne p hp (D, lst ys) (.tail _ (.tail _ (.head _)))⟩
  · intro ys nw hH
    unfold LCg.FinE
    intro D h tk F N o1
    simp only [List.cons_append] at N hH
    clear o1
    have hds : ds.length = 10 := by rw [hD.length]; rfl
    dsimp only
    iterate 23 (first | walk1 | (dsimp only; walk1))
    with_reducible rename News h₀ L _ _ => N5
    with_reducible rename Fr h₀ L _ _ => F5
    refine kmk_slice_lit F5 N5 (News.isList N5 (by k_mem)) (.int _ _) (.int _ _) (zs := (ds.drop 1).take 8) (by rw [kmk_pick_nat _ (a := 1) (b := 9) (by rw [List.size_toArray, hds]; rfl)]) ?_ (by with_unfolding_all rfl) (by intro _; with_unfolding_all rfl) (by rw [sizeLine_eq, List.size_toArray, hds]; decide)
    intro D6 h6 F6 N6 l6
    k_lt l6
    dsimp only
    refine kmk_add_lit F6 N6 (News.isList N6 (by k_mem)) (News.isList N6 (.head _)) rfl ?_ (by simp only [List.length_cons, List.length_nil, List.length_take, List.length_drop, hds, sizeLine_eq]; decide)
    intro D7 h7 F7 N7 l7
    k_lt l7
    dsimp only
    iterate 14 (first | walk1 | (dsimp only; walk1))
    rw [sliceBy_rev]
    iterate 6 (first | walk1 | (dsimp only; walk1))
    with_reducible rename News h₀ L _ _ => N8
    with_reducible rename Fr h₀ L _ _ => F8
    dsimp only
    refine kmk_add_lit F8 N8 (News.isList N8 (by k_mem)) (News.isList N8 (.head _)) rfl ?_ (by simp only [List.length_cons, List.length_nil, List.length_take, List.length_drop, List.length_append, List.size_toArray, hds, sizeLine_eq]; decide)
    intro D9 h9 F9 N9 l9
    obtain ⟨as1, r1⟩ := Held.reads (fun p hp => (N9 p hp).1) (Held.list (a := D) (n := ys.length) (by k_mem) rfl rfl (HeldAll.mono (fun p hp => List.mem_cons_of_mem _ (List.mem_cons_of_mem _ (List.mem_cons_of_mem _ (List.mem_cons_of_mem _ (List.mem_cons_of_mem _ (List.mem_cons_of_mem _ (List.mem_cons_of_mem _ (List.mem_cons_of_mem _ hp)))))))) hH))
    obtain ⟨as2, r2⟩ := Held.reads (fun p hp => (N9 p hp).1) (Held.list (a := D9) (n := 0) (List.Mem.head _) rfl rfl (((HeldAll.one (Held.list (by k_mem) rfl rfl (HeldAll.two (Held.str x tx) (Held.str a ta)))).append (((HeldAll.mono (fun p hp => List.mem_cons_of_mem _ (List.mem_cons_of_mem _ (List.mem_cons_of_mem _ (List.mem_cons_of_mem _ (List.mem_cons_of_mem _ (List.mem_cons_of_mem _ (List.mem_cons_of_mem _ (List.mem_cons_of_mem _ (List.mem_cons_of_mem _ (mem_app (l := [(Dw, lst ws), (L + 1 + 1, o2), (L + 1, o1)]) hp)))))))))) hD).drop 1).take 8)).append (HeldAll.one (Held.list (by k_mem) rfl rfl (HeldAll.two (Held.str (rev x) _) (Held.str b tb))))))
    k_dflt (refine ne_dataH r1 r2 hsl hsr (by ke_room) ?_)
    rw [heq]
    dsimp only [Bool.not_true]
    walk1
    try simp only [Bool.false_eq_true, if_false]
    refine wpR_pure ?_
    exact k _ _ F9 fun q hq => by
      rcases List.mem_cons.mp hq with rfl | hq
      · exact N9 _ (by k_mem)
      · rw [List.mem_singleton.mp hq]; exact N9 _ (by k_mem)
end Mine
end
theorem Mine.off_P2b : True := by
  w_top off
  trivial
section
open PySem PySem.W PyProof.Rows
set_option Elab.async false
set_option maxRecDepth 100000
namespace Mine
theorem rnd_one : ∀ (n : Nat) (l : List Nat), l.length = n * 1 → rnd 1 n l = l
  | 0, l, h => by
    have : l = [] := List.eq_nil_of_length_eq_zero (by omega)
    subst this
    rfl
  | n + 1, [], h => by simp at h
  | n + 1, a :: t, h => by
    unfold rnd
    simp only [List.take_succ_cons, List.take_zero, List.reverse_cons, List.reverse_nil, List.nil_append, List.drop_succ_cons, List.drop_zero, List.cons_append]
    rw [rnd_one n t (by simp at h; omega)]
theorem rnd_all (n : Nat) (l : List Nat) (h : l.length = n) : rnd n 1 l = l.reverse := by
  unfold rnd rnd
  rw [List.append_nil, List.take_of_length_le (by omega)]
theorem turn_one1 {x : Str} (h : ∀ c ∈ x.cps.toList, c < 256) : turnW x 1 = x :=
  Str.ext' (Array.ext' (by rw [turnW_rnd h (by decide) (n := x.length) (by omega)]; exact rnd_one _ _ (by rw [Array.length_toList]; show x.length = _; omega)))
theorem turn_all {x : Str} (h : ∀ c ∈ x.cps.toList, c < 256) (hx : 0 < x.length) : turnW x x.length = rev x :=
  Str.ext' (Array.ext' (by rw [turnW_rnd h hx (n := 1) (by omega), rnd_all _ _ (by rw [Array.length_toList]; rfl)]; simp [rev]))
theorem turn_head {x : Str} {k n : Nat} (h : ∀ c ∈ x.cps.toList, c < 256) (hk : 0 < k) (hl : x.length = n * k) (hn : 0 < n) : (turnW x k).cps.toList[0]? = x.cps.toList[k - 1]? := by
  rw [turnW_rnd h hk hl, rnd_get k hk n _ 0 (by rw [Array.length_toList]; exact hl) (Nat.mul_pos hn hk)]
  simp
/-- a text whose first or third sign is another is another -/
theorem not_lit {y w : Str} {c0 c1 c2 : Nat} (hw : w.cps.toList = [c0, c1, c2]) (hl : 3 ≤ y.cps.toList.length) (h : y.cps.toList[0]? ≠ some c0 ∨ y.cps.toList[2]? ≠ some c2) : (Txt.slice y none (some 3) != w) = true := by
  rw [show (3 : Int) = ((3 : Nat) : Int) from rfl, slice_to hl, bne_iff_ne]
  intro e
  have e1 := congrArg (fun z : Str => z.cps.toList) e
  simp only at e1
  rw [hw] at e1
  rcases h with h | h
  · apply h
    have := congrArg (fun l : List Nat => l[0]?) e1
    simpa [List.getElem?_take] using this
  · apply h
    have := congrArg (fun l : List Nat => l[2]?) e1
    simpa [List.getElem?_take] using this
theorem mem_dbl {c : Nat} : ∀ {l : List Nat}, c ∈ StrLaws.dbl 34 l → c ∈ l
  | [], h => by simp [StrLaws.dbl] at h
  | d :: l, h => by
    by_cases hd : d = 34
    · subst hd
      have : StrLaws.dbl 34 (34 :: l) = 34 :: 34 :: StrLaws.dbl 34 l := by simp [StrLaws.dbl]
      rw [this] at h
      simp only [List.mem_cons] at h ⊢
      rcases h with h | h | h
      · exact .inl h
      · exact .inl h
      · exact .inr (mem_dbl h)
    · have : StrLaws.dbl 34 (d :: l) = d :: StrLaws.dbl 34 l := by simp [StrLaws.dbl, hd]
      rw [this] at h
      simp only [List.mem_cons] at h ⊢
      rcases h with h | h
      · exact .inl h
      · exact .inr (mem_dbl h)
theorem unq_dbl : ∀ (l r : List Nat) (d : Nat), d ≠ 34 → unq (StrLaws.dbl 34 l ++ 34 :: d :: r) = l
  | [], r, d, hd => by simp only [StrLaws.dbl, List.nil_append]; exact unq_end r hd
  | c :: l, r, d, hd => by
    by_cases hc : c = 34
    · subst hc
      have : StrLaws.dbl 34 (34 :: l) = 34 :: 34 :: StrLaws.dbl 34 l := by simp [StrLaws.dbl]
      rw [this, List.cons_append, List.cons_append, unq_two, unq_dbl l r d hd]
    · have : StrLaws.dbl 34 (c :: l) = c :: StrLaws.dbl 34 l := by simp [StrLaws.dbl, hc]
      rw [this, List.cons_append, unq_plain _ hc, unq_dbl l r d hd]
/-- signs of a name -/
def NC (c : Nat) : Prop := c < 256 ∧ c ≠ 50
/-- what lies between the two ends of the reply -/
def midOf (A B D : List Nat) : List Nat := [53, 55, 32, 34] ++ (StrLaws.dbl 34 A ++ (34 :: 32 :: (D ++ (32 :: 34 :: ((StrLaws.dbl 34 B).reverse ++ [34, 32, 55, 53])))))
/-- what lies behind the first five signs -/
def tailOf (A B D : List Nat) : List Nat := (StrLaws.dbl 34 A ++ (34 :: 32 :: (D ++ (32 :: 34 :: ((StrLaws.dbl 34 B).reverse ++ [34, 32, 55, 53]))))) ++ [50]
theorem unq_tail (A B D : List Nat) : unq (tailOf A B D) = A := by
  unfold tailOf
  rw [List.append_assoc]
  exact unq_dbl _ _ _ (by decide)
theorem mid_rev (A B D : List Nat) : (midOf A B D).reverse = midOf B A D.reverse := by simp [midOf]
section
variable {a b : Str}
theorem reply_cps : (replyOf (dq a) (rev (dq b))).cps.toList = 50 :: (midOf a.cps.toList b.cps.toList (List.replicate (34 - ((dq a).length : Int) - ((rev (dq b)).length : Int)).toNat 46) ++ [50]) := by
  have e1 : (Str.ofString "257 \"").cps = #[50, 53, 55, 32, 34] := by decide +kernel
  have e2 : (Str.ofString "\" ").cps = #[34, 32] := by decide +kernel
  have e3 : (Str.ofString " \"").cps = #[32, 34] := by decide +kernel
  have e4 : (Str.ofString "\" 752").cps = #[34, 32, 55, 53, 50] := by decide +kernel
  have e5 : Str.ofString "." = ⟨#[46]⟩ := by decide +kernel
  unfold replyOf midOf
  rw [e5]
  show (((((((Str.ofString "257 \"").cps ++ (dq a).cps) ++ (Str.ofString "\" ").cps) ++ (Txt.mul ⟨#[46]⟩ _).cps) ++ (Str.ofString " \"").cps) ++ (rev (dq b)).cps) ++ (Str.ofString "\" 752").cps).toList = _
  rw [e1, e2, e3, e4]
  simp only [Array.toList_append, mul_one_list, rev, Array.toList_reverse, dq_cps]
  simp
theorem dq_len (x : Str) : (dq x).length = (StrLaws.dbl 34 x.cps.toList).length := by rw [← dq_cps, Array.length_toList]; rfl
theorem mid_len (ha : a.length ≤ 4) (hb : b.length ≤ 4) : (midOf a.cps.toList b.cps.toList (List.replicate (34 - ((dq a).length : Int) - ((rev (dq b)).length : Int)).toNat 46)).length = 46 := by
  have h1 := dq_length a
  have h2 := dq_length b
  have h3 := dq_len a
  have h4 := dq_len b
  have h5 := rev_length (dq b)
  unfold midOf
  simp only [List.length_append, List.length_cons, List.length_nil, List.length_replicate, List.length_reverse]
  omega
theorem reply_len (ha : a.length ≤ 4) (hb : b.length ≤ 4) : (replyOf (dq a) (rev (dq b))).length = 48 := by
  have h := congrArg List.length (reply_cps (a := a) (b := b))
  rw [List.length_cons, List.length_append, mid_len ha hb, Array.length_toList] at h
  exact h
theorem mid_nc (hA : ∀ c ∈ a.cps.toList, NC c) (hB : ∀ c ∈ b.cps.toList, NC c) (n : Nat) : ∀ c ∈ midOf a.cps.toList b.cps.toList (List.replicate n 46), NC c := by
  intro c hc
  unfold midOf at hc
  simp only [List.mem_append, List.mem_cons, List.not_mem_nil, or_false, List.mem_reverse, List.mem_replicate] at hc
  have t : ∀ d, d < 256 ∧ d ≠ 50 → c = d → NC c := fun d h e => e ▸ h
  rcases hc with (h | h | h | h) | h | h | h | ⟨_, h⟩ | h | h | h | h | h | h | h
  · exact t _ (by decide) h
  · exact t _ (by decide) h
  · exact t _ (by decide) h
  · exact t _ (by decide) h
  · exact hA c (mem_dbl h)
  · exact t _ (by decide) h
  · exact t _ (by decide) h
  · exact t _ (by decide) h
  · exact t _ (by decide) h
  · exact t _ (by decide) h
  · exact hB c (mem_dbl h)
  · exact t _ (by decide) h
  · exact t _ (by decide) h
  · exact t _ (by decide) h
  · exact t _ (by decide) h
theorem reply_small (hA : ∀ c ∈ a.cps.toList, NC c) (hB : ∀ c ∈ b.cps.toList, NC c) : ∀ c ∈ (replyOf (dq a) (rev (dq b))).cps.toList, c < 256 := by
  intro c hc
  rw [reply_cps] at hc
  simp only [List.mem_cons, List.mem_append, List.not_mem_nil, or_false] at hc
  rcases hc with h | h | h
  · omega
  · exact (mid_nc hA hB _ c h).1
  · omega
end
/-- what is heard of the reply by each width -/
def datOf (R a b : Str) (k : Int) : PyData := if k = 1 then .list [.str R, .str a] else if k = 48 then .list [.str (rev R), .str b] else dueOf R k
theorem heard_all {a b : Str} (ha : a.length ≤ 4) (hb : b.length ≤ 4) (hA : ∀ c ∈ a.cps.toList, NC c) (hB : ∀ c ∈ b.cps.toList, NC c) :
    ∀ k ∈ wl48, HeardAs (replyOf (dq a) (rev (dq b))) k (datOf (replyOf (dq a) (rev (dq b))) a b k) := by
  have hcps := reply_cps (a := a) (b := b)
  have hlen := reply_len ha hb
  have hsm := reply_small hA hB
  have hml := mid_len ha hb
  have hnc := mid_nc hA hB (34 - ((dq a).length : Int) - ((rev (dq b)).length : Int)).toNat
  generalize replyOf (dq a) (rev (dq b)) = R at *
  generalize (34 - ((dq a).length : Int) - ((rev (dq b)).length : Int)).toNat = m at *
  have str : ∀ (l : List Nat) (x : Str), l = x.cps.toList → (⟨l.toArray⟩ : Str) = x := fun l x e => Str.ext' (Array.ext' e)
  intro k hk
  obtain ⟨n, rfl, hn0, ⟨q, hq⟩, hnle⟩ := wl48_ok hk
  by_cases h1 : n = 1
  · subst h1
    refine .inl ⟨tailOf a.cps.toList b.cps.toList (List.replicate m 46), ?_, ?_⟩
    · show (turnW R 1).cps.toList = _
      rw [turn_one1 hsm, hcps]
      rfl
    · show PyData.list [.str R, .str a] = _
      rw [show (((1 : Nat) : Int)).toNat = 1 from rfl, turn_one1 hsm, str _ a (unq_tail _ _ _)]
  by_cases h48 : n = 48
  · subst h48
    have e48 : turnW R 48 = rev R := by have := turn_all hsm (by omega); rwa [hlen] at this
    have hrev : (rev R).cps.toList = 50 :: (midOf b.cps.toList a.cps.toList (List.replicate m 46) ++ [50]) := by
      have e : (rev R).cps.toList = R.cps.toList.reverse := by simp [rev]
      rw [e, hcps, List.reverse_cons, List.reverse_append, mid_rev, List.reverse_replicate]
      simp
    refine .inl ⟨tailOf b.cps.toList a.cps.toList (List.replicate m 46), ?_, ?_⟩
    · show (turnW R 48).cps.toList = _
      rw [e48, hrev]
      rfl
    · show PyData.list [.str (rev R), .str b] = _
      rw [show (((48 : Nat) : Int)).toNat = 48 from rfl, e48, str _ b (unq_tail _ _ _)]
  · have hnk : ((n : Nat) : Int).toNat = n := Int.toNat_natCast n
    have hlq : R.length = q * n := by rw [hlen, hq, Nat.mul_comm]
    have hq0 : 0 < q := by rcases Nat.eq_zero_or_pos q with h | h; · rw [h] at hq; omega
                           · exact h
    refine .inr ⟨?_, ?_⟩
    · rw [hnk]
      refine not_lit (c0 := 50) (c1 := 53) (c2 := 55) (by decide +kernel) (by rw [turnW_length, hlen]; decide) (.inl ?_)
      rw [turn_head hsm hn0 hlq hq0, hcps]
      obtain ⟨j, rfl⟩ : ∃ j, n = j + 2 := ⟨n - 2, by omega⟩
      show (50 :: _)[j + 1]? ≠ _
      have hj : j < 46 := by omega
      rw [List.getElem?_cons_succ, List.getElem?_append_left (by rw [hml]; exact hj), List.getElem?_eq_getElem (by rw [hml]; exact hj)]
      intro e
      exact (hnc _ (List.getElem_mem _)).2 (Option.some.inj e)
    · unfold datOf
      rw [if_neg (by omega), if_neg (by omega)]
      unfold dueOf
      rw [hnk, turn_round hsm hn0 (by rw [hlen]; exact ⟨q, hq⟩)]
theorem dat_eq (R a b : Str) : wl48.map (datOf R a b) = [.list [.str R, .str a]] ++ ((wl48.map (dueOf R)).drop 1).take 8 ++ [.list [.str (rev R), .str b]] := by
  simp [wl48, datOf]
end Mine
end
theorem Mine.off_L2e : True := by
  w_top off
  trivial
section
open PySem PySem.W PyProof.Rows PySem.Calls
set_option Elab.async false
set_option maxRecDepth 100000
set_option maxHeartbeats 8000000
namespace Mine
def figOf (mk : Str) (P : Int) : Str := if (mk != Str.ofString "7") = true then Str.ofString (toString P) else Txt.replace (Str.ofString (toString P)) (Str.ofString "7") (Str.ofString "8")
theorem law2_stage5 (w : World) (mean : ExcName → Option Value) (mg mb : Str → Option Value) (h₀ : Heap) (L fa : Addr) (cd : Value) (mk : Str) (P : Int) (tm tp : Tok) (hp : Heap) (tk0 : Nat) (s : Shared) (Q : Flow → Shared → Prop) (o1 o2 : Obj) (m : Str → Option Value) (h0 : 0 ≤ P) (h1 : P < 65536) (hmk : mk.length ≤ 1) :
  ∀ (K0 : Below callerA h₀ [] h₀) (X : (hd2.heap_39 w.params).In h₀) (T : Top hd2.view_39 (looseW hd2.view_39 []) mean mg mb h₀)
  (F : Fr h₀ L hp (fun y => if y = Str.ofString "mark" then some (.str mk tm) else if y = Str.ofString "port" then some (.int P tp) else m y)) (N : News h₀ L hp [(L + 1 + 1, o2), (L + 1, o1)])
  (k : ∀ (t1 : Tok) (h' : Heap) (tk : Nat), Fr h₀ L h' (fun y => if y = Str.ofString "figures" then some (.str (figOf mk P) t1) else if y = Str.ofString "mark" then some (.str mk tm) else if y = Str.ofString "port" then some (.int P tp) else m y) →
    News h₀ L h' [(L + 1 + 1, o2), (L + 1, o1)] → 
    wpR (model PySem.Challenge.rw_pe0048_02.row.prog w) (callerA.deeper (envOfC law2_d.name law2_d.scope L fa cd)) (execs law2_d.body.tail.tail.tail.tail.tail (envOfC law2_d.name law2_d.scope L fa cd)) Q (fun _ _ => False) { s with heap := h', toks := tk }),
  wpR (model PySem.Challenge.rw_pe0048_02.row.prog w) (callerA.deeper (envOfC law2_d.name law2_d.scope L fa cd)) (execs law2_d.body.tail.tail.tail.tail (envOfC law2_d.name law2_d.scope L fa cd)) Q (fun _ _ => False) { s with heap := hp, toks := tk0 } := by
  k_fill
  dsimp only [law2_d, recOf, List.tail_cons]
  intro K0 X T F N k
  refine R_stmt ?_
  generalize hE : (fun (_ : Value) (_ : Shared) => False) = E0 at k ⊢
  generalize hk : wpR (model PySem.Challenge.rw_pe0048_02.row.prog w) _ _ Q E0 = K9 at k ⊢
  repeat (first | walk1 | (dsimp only; walk1))
  · have hm : (mk != Str.ofString "7") = true := by assumption
    have hfig : figOf mk P = Str.ofString (toString P) := by unfold figOf; rw [if_pos hm]
    rw [hfig] at k
    with_reducible rename Fr h₀ L _ _ => F9
    with_reducible rename News h₀ L _ _ => N9
    exact k _ _ _ F9 N9
  · have hm : (mk != Str.ofString "7") = false := by assumption
    have hfig : figOf mk P = Txt.replace (Str.ofString (toString P)) (Str.ofString "7") (Str.ofString "8") := by unfold figOf; rw [if_neg (by rw [hm]; decide)]
    rw [hfig] at k
    repeat (first | walk1 | (dsimp only; walk1))
    have hl := KT.len_num h0 (show P < 10 ^ 10 by omega)
    refine replace_up (by exact Nat.succ_ne_zero _) (by exact Nat.succ_ne_zero _) (by exact Nat.ne_of_lt (Nat.lt_succ_self _)) (by decide +kernel) (by rw [show (Str.ofString "8").length = 1 from by decide +kernel]; omega) ?_
    intro t1 k1 hk1
    dsimp only
    repeat (first | walk1 | (dsimp only; walk1))
    with_reducible rename Fr h₀ L _ _ => F9
    with_reducible rename News h₀ L _ _ => N9
    exact k _ _ _ F9 N9
end Mine
end
theorem Mine.off_L2f : True := by
  w_top off
  trivial
section
open PySem PySem.W PyProof.Rows PySem.Calls
set_option Elab.async false
set_option maxRecDepth 100000
set_option maxHeartbeats 8000000
namespace Mine
def otherOf (mk fg : Str) : Str := Str.ofString "229 " ++ Txt.mul (Str.ofString " ") (14 - (fg.length : Int)) ++ Str.ofString "(" ++ Txt.mul mk 3 ++ fg ++ mk ++ Str.ofString ")"
theorem law2_stage6 (w : World) (mean : ExcName → Option Value) (mg mb : Str → Option Value) (h₀ : Heap) (L fa : Addr) (cd : Value) (mk fg : Str) (tm tf : Tok) (hp : Heap) (tk0 : Nat) (s : Shared) (Q : Flow → Shared → Prop) (o1 o2 : Obj) (m : Str → Option Value) (hmk : mk.length ≤ 1) (hfg : fg.length ≤ 10) (hm3 : (Txt.mul mk 3).length = 3) :
  ∀ (K0 : Below callerA h₀ [] h₀) (X : (hd2.heap_39 w.params).In h₀) (T : Top hd2.view_39 (looseW hd2.view_39 []) mean mg mb h₀)
  (F : Fr h₀ L hp (fun y => if y = Str.ofString "figures" then some (.str fg tf) else if y = Str.ofString "mark" then some (.str mk tm) else m y)) (N : News h₀ L hp [(L + 1 + 1, o2), (L + 1, o1)]) (c2 : o2.data = .cell none)
  (k : ∀ (t1 : Tok) (o' : Obj) (h' : Heap) (tk : Nat), o'.data = .cell (some (.str (otherOf mk fg) t1)) → Fr h₀ L h' (fun y => if y = Str.ofString "figures" then some (.str fg tf) else if y = Str.ofString "mark" then some (.str mk tm) else m y) →
    News h₀ L h' [(L + 1 + 1, o'), (L + 1, o1)] → 
    wpR (model PySem.Challenge.rw_pe0048_02.row.prog w) (callerA.deeper (envOfC law2_d.name law2_d.scope L fa cd)) (execs law2_d.body.tail.tail.tail.tail.tail.tail (envOfC law2_d.name law2_d.scope L fa cd)) Q (fun _ _ => False) { s with heap := h', toks := tk }),
  wpR (model PySem.Challenge.rw_pe0048_02.row.prog w) (callerA.deeper (envOfC law2_d.name law2_d.scope L fa cd)) (execs law2_d.body.tail.tail.tail.tail.tail (envOfC law2_d.name law2_d.scope L fa cd)) Q (fun _ _ => False) { s with heap := hp, toks := tk0 } := by
  k_fill
  dsimp only [law2_d, recOf, List.tail_cons]
  intro K0 X T F N c2 k
  refine R_stmt ?_
  generalize hE : (fun (_ : Value) (_ : Shared) => False) = E0 at k ⊢
  generalize hk : wpR (model PySem.Challenge.rw_pe0048_02.row.prog w) _ _ Q E0 = K9 at k ⊢
  repeat (first | walk1 | (dsimp only; walk1))
  with_reducible rename Fr h₀ L _ _ => F9
  with_reducible rename News h₀ L _ _ => N9
  exact k _ _ _ _ (by assumption) F9 N9
end Mine
end
theorem Mine.off_L2k : True := by
  w_top off
  trivial
section
open PySem PySem.W PyProof.Rows PySem.Calls PyProof.Rows.LCg
set_option Elab.async false
set_option maxRecDepth 100000
set_option maxHeartbeats 8000000
namespace Mine
def wl24 : List Int := [1, 2, 3, 4, 6, 8, 12, 24]
theorem wl24_ok {k : Int} (h : k ∈ wl24) : ∃ n : Nat, k = n ∧ 0 < n ∧ n ∣ 24 ∧ n ≤ 24 := by
  simp only [wl24, List.mem_cons, List.not_mem_nil, or_false] at h
  rcases h with rfl | rfl | rfl | rfl | rfl | rfl | rfl | rfl
  · exact ⟨1, rfl, by decide, by decide, by decide⟩
  · exact ⟨2, rfl, by decide, by decide, by decide⟩
  · exact ⟨3, rfl, by decide, by decide, by decide⟩
  · exact ⟨4, rfl, by decide, by decide, by decide⟩
  · exact ⟨6, rfl, by decide, by decide, by decide⟩
  · exact ⟨8, rfl, by decide, by decide, by decide⟩
  · exact ⟨12, rfl, by decide, by decide, by decide⟩
  · exact ⟨24, rfl, by decide, by decide, by decide⟩
/-- what _law_heard tells of the other reply by a width -/
def PortAs (x : Str) (k : Int) (n : Int) (d : PyData) : Prop :=
  (∃ (f : Str) (b c : Nat), (turnW x k.toNat).cps.toList = [50, 50, 57, 32] ++ (List.replicate b 32 ++ 40 :: ([c, c, c] ++ f.cps.toList ++ [c] ++ [41])) ∧ (c ≠ 40 ∧ c ≠ 41 ∧ c < 256) ∧ (∀ d ∈ f.cps.toList, d ≠ c ∧ d ≠ 41) ∧ PySem.intText? f = some n ∧ d = .list [.str (turnW x k.toNat), .tuple [.str (Str.ofString "host"), .int n]]) ∨
  ((Txt.slice (turnW x k.toNat) none (some 3) != Str.ofString "229") = true ∧ d = .list [.str (turnW x k.toNat), .list [.str (Str.ofString "refused"), .str (turnW x k.toNat)]])
theorem heard229 (w : World) (mean : ExcName → Option Value) (mg mb : Str → Option Value) (x : Str) (tx : Tok) (k n : Int) (tw : Tok) (d : PyData)
   (h256 : ∀ c ∈ x.cps.toList, c < 256) (hx : x.length = 24) (hk : k ∈ wl24) (hd : PortAs x k n d) (news : List (Addr × Obj)) (env : Env) (h₀ : Heap) (L : Addr) (m : Str → Option Value) (s : Shared) (Q : Value → Shared → Prop)
   (hf : env.frame = some L) (hke : env.scope.kind = .function) (B : Below callerA h₀ [] h₀) (F : Fr h₀ L s.heap m) (X : (hd2.heap_39 w.params).In h₀) (N : News h₀ L s.heap news) (T : Top hd2.view_39 (looseW hd2.view_39 []) mean mg mb h₀) 
   (hret : ∀ (r : Value) (nw : List (Addr × Obj)) (h' : Heap) (tk' : Nat), Fr h₀ L h' m → News h₀ L h' (nw ++ news) → (∀ p ∈ nw, ∀ q ∈ news, p.1 ≠ q.1) → Held nw r d → Q r { s with heap := h', toks := tk' }) :
   wpR (model PySem.Challenge.rw_pe0048_02.row.prog w) (callerA.deeper env) (call (.ref 89) [.str x tx, .int k tw, .bool true]) Q (fun _ _ => False) s := by
  obtain ⟨i, rfl, hn0, hnd, hnle⟩ := wl24_ok hk
  rcases hd with ⟨f, b, c, hl, hc, hf', hn, rfl⟩ | ⟨hl, rfl⟩
  · exact heard_ok229 w mean mg mb x tx i tw h256 (by omega) (by omega) (by omega) (by omega) (by rw [Int.toNat_natCast, hx]; exact hnd) f b c n hl hc hf' hn news env h₀ L m s Q hf hke B F X N T hret
  · exact heard_bad229 w mean mg mb x tx i tw h256 (by omega) (by omega) (by omega) (by omega) (by rw [Int.toNat_natCast, hx]; exact hnd) hl news env h₀ L m s Q hf hke B F X N T hret
theorem law2_stage11 (w : World) (mean : ExcName → Option Value) (mg mb : Str → Option Value) (h₀ : Heap) (L fa Dw : Addr) (cd : Value) (ws : List Value) (x : Str) (tx : Tok) (n : Int) (dat : Int → PyData) (hp : Heap) (tk0 : Nat) (s : Shared) (Q : Flow → Shared → Prop) (o1 o2 : Obj) (m : Str → Option Value) (hx : x.length = 24) (h256 : ∀ c ∈ x.cps.toList, c < 256) (hI : IntsAre ws wl24)
  (hda : ∀ k ∈ wl24, PortAs x k n (dat k)) :
  ∀ (K0 : Below callerA h₀ [] h₀) (X : (hd2.heap_39 w.params).In h₀) (T : Top hd2.view_39 (looseW hd2.view_39 []) mean mg mb h₀)
  (F : Fr h₀ L hp (fun y => if y = Str.ofString "widths_two" then some (.ref Dw) else m y)) (N : News h₀ L hp [(Dw, lst ws), (L + 1 + 1, o2), (L + 1, o1)]) (c2 : o2.data = .cell (some (.str x tx)))
  (k : ∀ (D : Addr) (ys : List Value) (nw : List (Addr × Obj)) (h' : Heap) (tk : Nat), HeldAll ([(Dw, lst ws), (L + 1 + 1, o2), (L + 1, o1)] ++ nw) ys (wl24.map dat) → Fr h₀ L h' (fun y => if y = Str.ofString "told" then some (.ref D) else if y = Str.ofString "widths_two" then some (.ref Dw) else m y) →
    News h₀ L h' ((D, lst ys) :: ([(Dw, lst ws), (L + 1 + 1, o2), (L + 1, o1)] ++ nw)) → 
    wpR (model PySem.Challenge.rw_pe0048_02.row.prog w) (callerA.deeper (envOfC law2_d.name law2_d.scope L fa cd)) (execs law2_d.body.tail.tail.tail.tail.tail.tail.tail.tail.tail.tail.tail (envOfC law2_d.name law2_d.scope L fa cd)) Q (fun _ _ => False) { s with heap := h', toks := tk }),
  wpR (model PySem.Challenge.rw_pe0048_02.row.prog w) (callerA.deeper (envOfC law2_d.name law2_d.scope L fa cd)) (execs law2_d.body.tail.tail.tail.tail.tail.tail.tail.tail.tail.tail (envOfC law2_d.name law2_d.scope L fa cd)) Q (fun _ _ => False) { s with heap := hp, toks := tk0 } := by
  k_fill
  dsimp only [law2_d, recOf, List.tail_cons]
  intro K0 X T F N c2 k
  refine R_stmtR ?_
  k_dflt (refine Assign_ListComp_R1 (h₀ := h₀) (L := L) (m := fun y => if y = Str.ofString "widths_two" then some (.ref Dw) else m y) (by rfl) (by with_unfolding_all rfl) (by with_unfolding_all rfl) (by decide) (by rfl) (by decide) (by rfl) (by rfl) (by rfl) (wpR_of_any ?_))
  walk1
  refine ⟨Dw, ws.toArray, ws.toArray.size, _, rfl, rfl, F, N, .inr ⟨_, List.Mem.head _, rfl, _, rfl⟩, rfl, by rw [sizeLine_eq, List.size_toArray, hI.length]; decide, fun g => ?_⟩
  refine rest_held wl24 dat (by simpa using hI) (.inr ⟨_, List.Mem.head _, rfl, _, rfl⟩) ?_ ?_
  · intro k0 t I oI C oC D m₂ ys nw h tk hkm hC hxk F N off ne
    simp only [List.cons_append, List.nil_append] at N off ⊢
    simp only [LCg.Off3] at off
    refine R_Call ?_
    walk1
    refine R_args_fn (R_args_cons (wpR_of_any ?_))
    walk1
    refine R_args_cons (wpR_of_any ?_)
    walk1
    refine R_args_cons (wpR_of_any ?_)
    walk1
    refine R_args_nil ⟨isFn_K X (by assumption) (by k_is), ?_⟩
    refine heard229 w mean mg mb x _ _ n _ _ h256 hx hkm (hda _ hkm) _ _ _ _ _ _ _ rfl rfl K0 (by assumption) X (by assumption) T ?_
    intro r nw' h' tk' F' N' hne hH
    refine ⟨_, _, nw', rfl, F', N', fun p hp => ?_, hH⟩
    exact ⟨hne p hp (I, oI) (.head _), hne p hp (C, oC) (.tail _ (.head _)), hne p hp (D, lst ys) (.tail _ (.tail _ (.head _)))⟩
  · intro ys nw hH
    unfold LCg.FinA
    intro D h tk F N o1
    exact k _ _ _ _ _ hH F N
end Mine
end
theorem Mine.off_B_name : True := by
  w_top off
  trivial
section
open PySem PySem.W PyProof.Rows PySem.Calls
set_option Elab.async false
set_option maxRecDepth 100000
set_option maxHeartbeats 8000000
namespace Mine
/-- what _law_name answers. -/
def nameOf2 (x : Int) : Str := Txt.join (Str.ofString "") ((List.range (x.fmod 5).toNat).map fun k => Txt.item (Str.ofString "\"a/é") (((x.fdiv 5).fdiv (4 ^ k)).fmod 4))
theorem name_d0 (w : World) (mean : ExcName → Option Value) (mg mb : Str → Option Value) (news : List (Addr × Obj)) (x : Int) (tx : Tok) (hm : x.fmod 5 = 0) :
   CbClaim PySem.Challenge.rw_pe0048_02.row.prog w (hd2.heap_39 w.params) hd2.view_39 (looseW hd2.view_39 []) mean mg mb 77 news [] True [.int x tx] (fun t => .str (nameOf2 x) t) := by
  k_fill
  unfold CbClaim
  dsimp only [CbLists, CbRet]
  intro dp un gd cn cs a ccd cl outer A₀ base h₀ L m s Q E B F X N T hcs _ hdp hun hret
  refine wpAny_call ?_
  k_dflt (refine' code_defC (binds := [(Str.ofString "x", .int x tx)]) B F X N T rfl rfl hcs ?k6 ?k7 ?k8 ?k9 ?kB ?kD ?_ ?c2 ?c3 ?c4; (case k6 => k_is); (case k7 => k_is); (case k8 => ktr_room); (case k9 => exact BindsTo.of_eq rfl); (case kB => exact rfl); (case kD => decide +kernel); (case c2 => exact rfl); (case c3 => exact rfl); (case c4 => exact rfl); k_whole)
  intro g' L' h' tk' cells' FG' F' N' Y' B' X' T' l1
  clear F N X T B
  (try k_lt l1); k_cells Y'; (try simp only [List.cons_append, List.nil_append] at N'); (try dsimp only)
  have hnm : nameOf2 x = Txt.join (Str.ofString "") [] := by unfold nameOf2; rw [hm]; rfl
  rw [hnm] at hret
  clear hnm
  iterate 7 (first | walk1 | (dsimp only; walk1))
  k_dflt (refine LCg.ListComp_U (F₀ := by k_asm) (by with_unfolding_all rfl) (by decide) (by rfl) (by decide) (by rfl) ?_)
  iterate 8 (first | walk1 | (dsimp only; walk1))
  simp only [hm]
  iterate 2 (first | walk1 | (dsimp only; walk1))
  k_dflt (refine LCg.CompSrc.range (by rfl) (by k_asm) (by k_asm) (by assumption) (by first | decide | rfl) (by first | rfl | decide) (by first | size_fits | exact Nat.le_of_ble_eq_true rfl) ?_; intro g'; lcg_lit)
  k_steps
  exact leaveK_ (L' := L') (by assumption) (by assumption) fun F8 N8 => hret _ _ _ F8 fun q hq => N8 q (List.mem_cons_of_mem _ (List.mem_cons_of_mem _ hq))
theorem name_d1 (w : World) (mean : ExcName → Option Value) (mg mb : Str → Option Value) (news : List (Addr × Obj)) (x : Int) (tx : Tok) (hm : x.fmod 5 = 1) :
   CbClaim PySem.Challenge.rw_pe0048_02.row.prog w (hd2.heap_39 w.params) hd2.view_39 (looseW hd2.view_39 []) mean mg mb 77 news [] True [.int x tx] (fun t => .str (nameOf2 x) t) := by
  k_fill
  unfold CbClaim
  dsimp only [CbLists, CbRet]
  intro dp un gd cn cs a ccd cl outer A₀ base h₀ L m s Q E B F X N T hcs _ hdp hun hret
  refine wpAny_call ?_
  k_dflt (refine' code_defC (binds := [(Str.ofString "x", .int x tx)]) B F X N T rfl rfl hcs ?k6 ?k7 ?k8 ?k9 ?kB ?kD ?_ ?c2 ?c3 ?c4; (case k6 => k_is); (case k7 => k_is); (case k8 => ktr_room); (case k9 => exact BindsTo.of_eq rfl); (case kB => exact rfl); (case kD => decide +kernel); (case c2 => exact rfl); (case c3 => exact rfl); (case c4 => exact rfl); k_whole)
  intro g' L' h' tk' cells' FG' F' N' Y' B' X' T' l1
  clear F N X T B
  (try k_lt l1); k_cells Y'; (try simp only [List.cons_append, List.nil_append] at N'); (try dsimp only)
  have hnm : nameOf2 x = Txt.join (Str.ofString "") [Txt.item (Str.ofString "\"a/é") (((x.fdiv 5).fdiv (4 ^ (0 + (0 : Nat) : Int).toNat)).fmod 4)] := by unfold nameOf2; rw [hm]; rfl
  rw [hnm] at hret
  clear hnm
  iterate 7 (first | walk1 | (dsimp only; walk1))
  k_dflt (refine LCg.ListComp_U (F₀ := by k_asm) (by with_unfolding_all rfl) (by decide) (by rfl) (by decide) (by rfl) ?_)
  iterate 8 (first | walk1 | (dsimp only; walk1))
  simp only [hm]
  iterate 2 (first | walk1 | (dsimp only; walk1))
  k_dflt (refine LCg.CompSrc.range (by rfl) (by k_asm) (by k_asm) (by assumption) (by first | decide | rfl) (by first | rfl | decide) (by first | size_fits | exact Nat.le_of_ble_eq_true rfl) ?_; intro g'; lcg_lit)
  k_steps
  refine LCg.CompEnd.intro (by assumption) (by assumption) _ (fun _ h => h) (by assumption) True.intro ?_
  k_steps
  exact leaveK_ (L' := L') (by assumption) (by assumption) fun F8 N8 => hret _ _ _ F8 fun q hq => N8 q (List.mem_cons_of_mem _ (List.mem_cons_of_mem _ hq))
theorem name_d2 (w : World) (mean : ExcName → Option Value) (mg mb : Str → Option Value) (news : List (Addr × Obj)) (x : Int) (tx : Tok) (hm : x.fmod 5 = 2) :
   CbClaim PySem.Challenge.rw_pe0048_02.row.prog w (hd2.heap_39 w.params) hd2.view_39 (looseW hd2.view_39 []) mean mg mb 77 news [] True [.int x tx] (fun t => .str (nameOf2 x) t) := by
  k_fill
  unfold CbClaim
  dsimp only [CbLists, CbRet]
  intro dp un gd cn cs a ccd cl outer A₀ base h₀ L m s Q E B F X N T hcs _ hdp hun hret
  refine wpAny_call ?_
  k_dflt (refine' code_defC (binds := [(Str.ofString "x", .int x tx)]) B F X N T rfl rfl hcs ?k6 ?k7 ?k8 ?k9 ?kB ?kD ?_ ?c2 ?c3 ?c4; (case k6 => k_is); (case k7 => k_is); (case k8 => ktr_room); (case k9 => exact BindsTo.of_eq rfl); (case kB => exact rfl); (case kD => decide +kernel); (case c2 => exact rfl); (case c3 => exact rfl); (case c4 => exact rfl); k_whole)
  intro g' L' h' tk' cells' FG' F' N' Y' B' X' T' l1
  clear F N X T B
  (try k_lt l1); k_cells Y'; (try simp only [List.cons_append, List.nil_append] at N'); (try dsimp only)
  have hnm : nameOf2 x = Txt.join (Str.ofString "") [Txt.item (Str.ofString "\"a/é") (((x.fdiv 5).fdiv (4 ^ (0 + (0 : Nat) : Int).toNat)).fmod 4), Txt.item (Str.ofString "\"a/é") (((x.fdiv 5).fdiv (4 ^ (0 + (1 : Nat) : Int).toNat)).fmod 4)] := by unfold nameOf2; rw [hm]; rfl
  rw [hnm] at hret
  clear hnm
  iterate 7 (first | walk1 | (dsimp only; walk1))
  k_dflt (refine LCg.ListComp_U (F₀ := by k_asm) (by with_unfolding_all rfl) (by decide) (by rfl) (by decide) (by rfl) ?_)
  iterate 8 (first | walk1 | (dsimp only; walk1))
  simp only [hm]
  iterate 2 (first | walk1 | (dsimp only; walk1))
  k_dflt (refine LCg.CompSrc.range (by rfl) (by k_asm) (by k_asm) (by assumption) (by first | decide | rfl) (by first | rfl | decide) (by first | size_fits | exact Nat.le_of_ble_eq_true rfl) ?_; intro g'; lcg_lit)
  k_steps
  refine LCg.CompEnd.intro (by assumption) (by assumption) _ (fun _ h => h) (by assumption) True.intro ?_
  k_steps
  refine LCg.CompEnd.intro (by assumption) (by assumption) _ (fun _ h => h) (by assumption) True.intro ?_
  k_steps
  exact leaveK_ (L' := L') (by assumption) (by assumption) fun F8 N8 => hret _ _ _ F8 fun q hq => N8 q (List.mem_cons_of_mem _ (List.mem_cons_of_mem _ hq))
theorem name_d3 (w : World) (mean : ExcName → Option Value) (mg mb : Str → Option Value) (news : List (Addr × Obj)) (x : Int) (tx : Tok) (hm : x.fmod 5 = 3) :
   CbClaim PySem.Challenge.rw_pe0048_02.row.prog w (hd2.heap_39 w.params) hd2.view_39 (looseW hd2.view_39 []) mean mg mb 77 news [] True [.int x tx] (fun t => .str (nameOf2 x) t) := by
  k_fill
  unfold CbClaim
  dsimp only [CbLists, CbRet]
  intro dp un gd cn cs a ccd cl outer A₀ base h₀ L m s Q E B F X N T hcs _ hdp hun hret
  refine wpAny_call ?_
  k_dflt (refine' code_defC (binds := [(Str.ofString "x", .int x tx)]) B F X N T rfl rfl hcs ?k6 ?k7 ?k8 ?k9 ?kB ?kD ?_ ?c2 ?c3 ?c4; (case k6 => k_is); (case k7 => k_is); (case k8 => ktr_room); (case k9 => exact BindsTo.of_eq rfl); (case kB => exact rfl); (case kD => decide +kernel); (case c2 => exact rfl); (case c3 => exact rfl); (case c4 => exact rfl); k_whole)
  intro g' L' h' tk' cells' FG' F' N' Y' B' X' T' l1
  clear F N X T B
  (try k_lt l1); k_cells Y'; (try simp only [List.cons_append, List.nil_append] at N'); (try dsimp only)
  have hnm : nameOf2 x = Txt.join (Str.ofString "") [Txt.item (Str.ofString "\"a/é") (((x.fdiv 5).fdiv (4 ^ (0 + (0 : Nat) : Int).toNat)).fmod 4), Txt.item (Str.ofString "\"a/é") (((x.fdiv 5).fdiv (4 ^ (0 + (1 : Nat) : Int).toNat)).fmod 4), Txt.item (Str.ofString "\"a/é") (((x.fdiv 5).fdiv (4 ^ (0 + (2 : Nat) : Int).toNat)).fmod 4)] := by unfold nameOf2; rw [hm]; rfl
  rw [hnm] at hret
  clear hnm
  iterate 7 (first | walk1 | (dsimp only; walk1))
  k_dflt (refine LCg.ListComp_U (F₀ := by k_asm) (by with_unfolding_all rfl) (by decide) (by rfl) (by decide) (by rfl) ?_)
  iterate 8 (first | walk1 | (dsimp only; walk1))
  simp only [hm]
  iterate 2 (first | walk1 | (dsimp only; walk1))
  k_dflt (refine LCg.CompSrc.range (by rfl) (by k_asm) (by k_asm) (by assumption) (by first | decide | rfl) (by first | rfl | decide) (by first | size_fits | exact Nat.le_of_ble_eq_true rfl) ?_; intro g'; lcg_lit)
  k_steps
  refine LCg.CompEnd.intro (by assumption) (by assumption) _ (fun _ h => h) (by assumption) True.intro ?_
  k_steps
  refine LCg.CompEnd.intro (by assumption) (by assumption) _ (fun _ h => h) (by assumption) True.intro ?_
  k_steps
  refine LCg.CompEnd.intro (by assumption) (by assumption) _ (fun _ h => h) (by assumption) True.intro ?_
  k_steps
  exact leaveK_ (L' := L') (by assumption) (by assumption) fun F8 N8 => hret _ _ _ F8 fun q hq => N8 q (List.mem_cons_of_mem _ (List.mem_cons_of_mem _ hq))
theorem name_d4 (w : World) (mean : ExcName → Option Value) (mg mb : Str → Option Value) (news : List (Addr × Obj)) (x : Int) (tx : Tok) (hm : x.fmod 5 = 4) :
   CbClaim PySem.Challenge.rw_pe0048_02.row.prog w (hd2.heap_39 w.params) hd2.view_39 (looseW hd2.view_39 []) mean mg mb 77 news [] True [.int x tx] (fun t => .str (nameOf2 x) t) := by
  k_fill
  unfold CbClaim
  dsimp only [CbLists, CbRet]
  intro dp un gd cn cs a ccd cl outer A₀ base h₀ L m s Q E B F X N T hcs _ hdp hun hret
  refine wpAny_call ?_
  k_dflt (refine' code_defC (binds := [(Str.ofString "x", .int x tx)]) B F X N T rfl rfl hcs ?k6 ?k7 ?k8 ?k9 ?kB ?kD ?_ ?c2 ?c3 ?c4; (case k6 => k_is); (case k7 => k_is); (case k8 => ktr_room); (case k9 => exact BindsTo.of_eq rfl); (case kB => exact rfl); (case kD => decide +kernel); (case c2 => exact rfl); (case c3 => exact rfl); (case c4 => exact rfl); k_whole)
  intro g' L' h' tk' cells' FG' F' N' Y' B' X' T' l1
  clear F N X T B
  (try k_lt l1); k_cells Y'; (try simp only [List.cons_append, List.nil_append] at N'); (try dsimp only)
  have hnm : nameOf2 x = Txt.join (Str.ofString "") [Txt.item (Str.ofString "\"a/é") (((x.fdiv 5).fdiv (4 ^ (0 + (0 : Nat) : Int).toNat)).fmod 4), Txt.item (Str.ofString "\"a/é") (((x.fdiv 5).fdiv (4 ^ (0 + (1 : Nat) : Int).toNat)).fmod 4), Txt.item (Str.ofString "\"a/é") (((x.fdiv 5).fdiv (4 ^ (0 + (2 : Nat) : Int).toNat)).fmod 4), Txt.item (Str.ofString "\"a/é") (((x.fdiv 5).fdiv (4 ^ (0 + (3 : Nat) : Int).toNat)).fmod 4)] := by unfold nameOf2; rw [hm]; rfl
  rw [hnm] at hret
  clear hnm
  iterate 7 (first | walk1 | (dsimp only; walk1))
  k_dflt (refine LCg.ListComp_U (F₀ := by k_asm) (by with_unfolding_all rfl) (by decide) (by rfl) (by decide) (by rfl) ?_)
  iterate 8 (first | walk1 | (dsimp only; walk1))
  simp only [hm]
  iterate 2 (first | walk1 | (dsimp only; walk1))
  k_dflt (refine LCg.CompSrc.range (by rfl) (by k_asm) (by k_asm) (by assumption) (by first | decide | rfl) (by first | rfl | decide) (by first | size_fits | exact Nat.le_of_ble_eq_true rfl) ?_; intro g'; lcg_lit)
  k_steps
  refine LCg.CompEnd.intro (by assumption) (by assumption) _ (fun _ h => h) (by assumption) True.intro ?_
  k_steps
  refine LCg.CompEnd.intro (by assumption) (by assumption) _ (fun _ h => h) (by assumption) True.intro ?_
  k_steps
  refine LCg.CompEnd.intro (by assumption) (by assumption) _ (fun _ h => h) (by assumption) True.intro ?_
  k_steps
  refine LCg.CompEnd.intro (by assumption) (by assumption) _ (fun _ h => h) (by assumption) True.intro ?_
  k_steps
  exact leaveK_ (L' := L') (by assumption) (by assumption) fun F8 N8 => hret _ _ _ F8 fun q hq => N8 q (List.mem_cons_of_mem _ (List.mem_cons_of_mem _ hq))
theorem name_d (w : World) (mean : ExcName → Option Value) (mg mb : Str → Option Value) (news : List (Addr × Obj)) (x : Int) (tx : Tok) :
   CbClaim PySem.Challenge.rw_pe0048_02.row.prog w (hd2.heap_39 w.params) hd2.view_39 (looseW hd2.view_39 []) mean mg mb 77 news [] True [.int x tx] (fun t => .str (nameOf2 x) t) := by
  have h1 : 0 ≤ x.fmod 5 := Int.fmod_nonneg_of_pos x (by decide)
  have h2 : x.fmod 5 < 5 := Int.fmod_lt_of_pos x (by decide)
  rcases (by omega : x.fmod 5 = 0 ∨ x.fmod 5 = 1 ∨ x.fmod 5 = 2 ∨ x.fmod 5 = 3 ∨ x.fmod 5 = 4) with h | h | h | h | h
  · exact name_d0 w mean mg mb news x tx h
  · exact name_d1 w mean mg mb news x tx h
  · exact name_d2 w mean mg mb news x tx h
  · exact name_d3 w mean mg mb news x tx h
  · exact name_d4 w mean mg mb news x tx h
end Mine
end
theorem Mine.off_P2c : True := by
  w_top off
  trivial
section
open PySem PySem.W PyProof.Rows PySem.NumText
set_option Elab.async false
set_option maxRecDepth 100000
namespace Mine
theorem item_nc {x : Str} (hx : ∀ c ∈ x.cps.toList, NC c) (i : Int) : (∀ c ∈ (Txt.item x i).cps.toList, NC c) ∧ (Txt.item x i).length ≤ 1 := by
  refine ⟨fun c hc => ?_, Nat.le_refl _⟩
  have hc' : c = (Txt.charAt x i).getD 0 := by simpa [Txt.item] using hc
  cases hq : Txt.charAt x i with
  | none => rw [hq] at hc'; subst hc'; exact ⟨by decide, by decide⟩
  | some d =>
    rw [hq] at hc'
    simp only [Option.getD_some] at hc'
    subst hc'
    unfold Txt.charAt at hq
    obtain ⟨j, _, hj⟩ := Option.bind_eq_some_iff.mp hq
    exact hx c (by rw [← Array.getElem?_toList] at hj; exact List.mem_of_getElem? hj)
theorem name_nc (x : Int) : (∀ c ∈ (nameOf2 x).cps.toList, NC c) ∧ (nameOf2 x).length ≤ 4 := by
  have hs : ∀ c ∈ (Str.ofString "\"a/é").cps.toList, NC c := by
    have e : (Str.ofString "\"a/é").cps = #[34, 97, 47, 233] := by decide +kernel
    intro c hc
    rw [e] at hc
    simp at hc
    rcases hc with rfl | rfl | rfl | rfl <;> exact ⟨by decide, by decide⟩
  have h1 : 0 ≤ x.fmod 5 := Int.fmod_nonneg_of_pos x (by decide)
  have h2 : x.fmod 5 < 5 := Int.fmod_lt_of_pos x (by decide)
  have key : ∀ ts : List Str, (∀ t ∈ ts, (∀ c ∈ t.cps.toList, NC c) ∧ t.length ≤ 1) → (∀ c ∈ (ts.map (·.cps.toList)).flatten, NC c) ∧ (ts.map (·.cps.toList)).flatten.length ≤ ts.length := by
    intro ts
    induction ts with
    | nil => intro _; exact ⟨fun c hc => by simp at hc, Nat.le_refl _⟩
    | cons t r ih =>
      intro h
      have ih := ih fun u hu => h u (List.mem_cons_of_mem _ hu)
      have ht := h t (List.Mem.head _)
      have htl : t.cps.toList.length ≤ 1 := by rw [Array.length_toList]; exact ht.2
      rw [List.map_cons, List.flatten_cons]
      refine ⟨fun c hc => ?_, ?_⟩
      · rcases List.mem_append.mp hc with hc | hc
        · exact ht.1 c hc
        · exact ih.1 c hc
      · rw [List.length_append, List.length_cons]
        have := ih.2
        omega
  have e : (nameOf2 x).cps.toList = (((List.range (x.fmod 5).toNat).map fun k => Txt.item (Str.ofString "\"a/é") (((x.fdiv 5).fdiv (4 ^ k)).fmod 4)).map (·.cps.toList)).flatten := by
    unfold nameOf2
    show (Builtin.Str.glued _ _).cps.toList = _
    rw [StrLaws.glued_eq_join, join_nil_list]
  have := key ((List.range (x.fmod 5).toNat).map fun k => Txt.item (Str.ofString "\"a/é") (((x.fdiv 5).fdiv (4 ^ k)).fmod 4)) fun t ht => by
    obtain ⟨k, _, rfl⟩ := List.mem_map.mp ht
    exact item_nc hs _
  rw [← e] at this
  refine ⟨this.1, ?_⟩
  have h3 := this.2
  rw [List.length_map, List.length_range, Array.length_toList] at h3
  show (nameOf2 x).cps.size ≤ 4
  omega
/- a sign put for another -/
def joinL (z : Nat) : List (List Nat) → List Nat
  | [] => []
  | [p] => p
  | p :: q :: r => p ++ z :: joinL z (q :: r)
theorem join_L (z : Nat) : ∀ ps : List Str, (Str.join ⟨#[z]⟩ ps).cps.toList = joinL z (ps.map (·.cps.toList))
  | [] => by simp [Str.join, Str.empty, joinL]
  | [x] => by simp [Str.join, joinL]
  | x :: y :: r => by
    have ih := join_L z (y :: r)
    show ((x.cps ++ #[z]) ++ (Str.join ⟨#[z]⟩ (y :: r)).cps).toList = _
    rw [Array.toList_append, ih]
    simp [joinL]
theorem cut_ne (c : Nat) : ∀ l : List Nat, ∃ p r, cut c l = p :: r
  | [] => ⟨_, _, rfl⟩
  | a :: l => by
    obtain ⟨p, r, e⟩ := cut_ne c l
    unfold cut
    split
    · exact ⟨_, _, rfl⟩
    · rw [e]; exact ⟨_, _, rfl⟩
theorem join_cut (c z : Nat) : ∀ l : List Nat, joinL z (cut c l) = l.map fun d => if d = c then z else d
  | [] => rfl
  | a :: l => by
    have ih := join_cut c z l
    obtain ⟨p, r, e⟩ := cut_ne c l
    unfold cut
    by_cases h : a = c
    · rw [if_pos h, e, List.map_cons, if_pos h, ← ih, e]
      rfl
    · rw [if_neg h, e, List.map_cons, if_neg h, ← ih, e]
      cases r with
      | nil => rfl
      | cons q r => rfl
theorem replace_map (x : Str) (c z : Nat) : (Txt.replace x ⟨#[c]⟩ ⟨#[z]⟩).cps.toList = x.cps.toList.map fun d => if d = c then z else d := by
  rw [StrLaws.replace_one, join_L, split_cut, join_cut]
/-- the mark's sign -/
def markC (mk : Str) : Nat := mk.cps.getD 0 0
theorem mark_facts {mk : Str} (h : mk = Str.ofString "|" ∨ mk = Str.ofString "a" ∨ mk = Str.ofString "7") : ∃ c, mk = ⟨#[c]⟩ ∧ (c ≠ 40 ∧ c ≠ 41 ∧ c < 256) ∧ (c = 55 ∨ c < 48 ∨ 57 < c) ∧ ((mk != Str.ofString "7") = true ∨ c = 55) ∧ ((mk != Str.ofString "7") = true → c ≠ 55) := by
  rcases h with rfl | rfl | rfl
  · exact ⟨124, by decide +kernel, by decide, by decide, .inl (by decide +kernel), fun _ => by decide⟩
  · exact ⟨97, by decide +kernel, by decide, by decide, .inl (by decide +kernel), fun _ => by decide⟩
  · exact ⟨55, by decide +kernel, by decide, by decide, .inr rfl, fun h => absurd h (by decide +kernel)⟩
theorem fig_facts {mk : Str} {P : Int} (h : mk = Str.ofString "|" ∨ mk = Str.ofString "a" ∨ mk = Str.ofString "7") (h0 : 0 ≤ P) (h1 : P < 65536) :
    ∃ c n, mk = ⟨#[c]⟩ ∧ (c ≠ 40 ∧ c ≠ 41 ∧ c < 256) ∧ (figOf mk P).length ≤ 5 ∧ (∀ d ∈ (figOf mk P).cps.toList, 48 ≤ d ∧ d ≤ 57 ∧ d ≠ c) ∧ PySem.intText? (figOf mk P) = some n := by
  obtain ⟨c, hc, hc1, hc2, hc3, hc4⟩ := mark_facts h
  have hl : (Str.ofString (toString P)).length ≤ 5 := toString_length_le h0 (by decide) (by omega)
  obtain ⟨p, rfl⟩ := Int.eq_ofNat_of_zero_le h0
  have hd : ∀ d ∈ (Str.ofString (toString ((p : Nat) : Int))).cps.toList, 48 ≤ d ∧ d ≤ 57 := by
    intro d hd
    rw [KIN.signs_num] at hd
    obtain ⟨ch, hch, e⟩ := List.mem_map.mp hd
    have r := digit_range (Nat.isDigit_of_mem_toDigits (by decide) (by decide) hch)
    rw [← e]
    exact r
  have hne : (Str.ofString (toString ((p : Nat) : Int))).cps.toList ≠ [] := by
    rw [KIN.signs_num]
    intro e
    have h := toDigits_len_ge 10 p
    rw [List.map_eq_nil_iff.mp e] at h
    exact absurd h (by decide)
  by_cases hm : (mk != Str.ofString "7") = true
  · have e : figOf mk ((p : Nat) : Int) = Str.ofString (toString ((p : Nat) : Int)) := by unfold figOf; rw [if_pos hm]
    have hc5 := hc4 hm
    rw [e]
    refine ⟨c, _, hc, hc1, hl, fun d hd' => ⟨(hd d hd').1, (hd d hd').2, ?_⟩, intText_digits hd hne (by omega)⟩
    have := hd d hd'
    omega
  · have hc5 : c = 55 := by
      rcases hc3 with h | h
      · exact absurd h hm
      · exact h
    have e7 : Str.ofString "7" = ⟨#[55]⟩ := by decide +kernel
    have e8 : Str.ofString "8" = ⟨#[56]⟩ := by decide +kernel
    have e : (figOf mk ((p : Nat) : Int)).cps.toList = (Str.ofString (toString ((p : Nat) : Int))).cps.toList.map fun d => if d = 55 then 56 else d := by
      unfold figOf
      rw [if_neg hm, e7, e8, replace_map]
    have hfl : (figOf mk ((p : Nat) : Int)).length ≤ 5 := by
      have := congrArg List.length e
      rw [List.length_map, Array.length_toList, Array.length_toList] at this
      show (figOf mk ((p : Nat) : Int)).cps.size ≤ 5
      rw [this]
      exact hl
    have hd2 : ∀ d ∈ (figOf mk ((p : Nat) : Int)).cps.toList, 48 ≤ d ∧ d ≤ 57 ∧ d ≠ 55 := by
      intro d hd'
      rw [e] at hd'
      obtain ⟨d', h', rfl⟩ := List.mem_map.mp hd'
      have := hd d' h'
      split
      · exact ⟨by decide, by decide, by decide⟩
      · exact ⟨this.1, this.2, by assumption⟩
    refine ⟨c, _, hc, hc1, hfl, fun d hd' => by rw [hc5]; exact hd2 d hd', intText_digits (fun d hd' => ⟨(hd2 d hd').1, (hd2 d hd').2.1⟩) (by rw [e]; intro h; exact hne (List.map_eq_nil_iff.mp h)) (by omega)⟩
theorem other_cps (c : Nat) (fg : Str) : (otherOf ⟨#[c]⟩ fg).cps.toList = [50, 50, 57, 32] ++ (List.replicate (14 - (fg.length : Int)).toNat 32 ++ 40 :: ([c, c, c] ++ fg.cps.toList ++ [c] ++ [41])) := by
  have e1 : (Str.ofString "229 ").cps = #[50, 50, 57, 32] := by decide +kernel
  have e2 : Str.ofString " " = ⟨#[32]⟩ := by decide +kernel
  have e3 : (Str.ofString "(").cps = #[40] := by decide +kernel
  have e4 : (Str.ofString ")").cps = #[41] := by decide +kernel
  unfold otherOf
  rw [e2]
  show ((((((((Str.ofString "229 ").cps ++ (Txt.mul ⟨#[32]⟩ _).cps) ++ (Str.ofString "(").cps) ++ (Txt.mul ⟨#[c]⟩ 3).cps) ++ fg.cps) ++ #[c]) ++ (Str.ofString ")").cps)).toList = _
  rw [e1, e3, e4]
  simp only [Array.toList_append, mul_one_list]
  simp [List.replicate]
def portDat (O : Str) (n : Int) (k : Int) : PyData := if k = 1 then .list [.str O, .tuple [.str (Str.ofString "host"), .int n]] else dueOf O k
theorem port_all {c : Nat} {fg : Str} {n : Int} (hc : c ≠ 40 ∧ c ≠ 41 ∧ c < 256) (hl : fg.length ≤ 5) (hd : ∀ d ∈ fg.cps.toList, 48 ≤ d ∧ d ≤ 57 ∧ d ≠ c) (hn : PySem.intText? fg = some n) :
    (otherOf ⟨#[c]⟩ fg).length = 24 ∧ (∀ d ∈ (otherOf ⟨#[c]⟩ fg).cps.toList, d < 256) ∧ ∀ k ∈ wl24, PortAs (otherOf ⟨#[c]⟩ fg) k n (portDat (otherOf ⟨#[c]⟩ fg) n k) := by
  have hcps := other_cps c fg
  generalize otherOf ⟨#[c]⟩ fg = O at *
  obtain ⟨b, hb⟩ : ∃ b : Nat, (14 - (fg.length : Int)).toNat = b ∧ 9 ≤ b ∧ b + fg.length = 14 := ⟨_, rfl, by omega, by omega⟩
  rw [hb.1] at hcps
  have hfl : fg.cps.toList.length = fg.length := Array.length_toList
  have hlen : O.cps.toList.length = 24 := by
    rw [hcps]
    simp only [List.length_append, List.length_cons, List.length_nil, List.length_replicate, hfl]
    omega
  have hlen' : O.length = 24 := by rw [← hlen, Array.length_toList]; rfl
  have hsm : ∀ d ∈ O.cps.toList, d < 256 := by
    intro d h
    rw [hcps] at h
    simp only [List.mem_append, List.mem_cons, List.not_mem_nil, or_false, List.mem_replicate] at h
    rcases h with (h | h | h | h) | ⟨_, h⟩ | h | ((((h | h | h) | h) | h) | h)
    any_goals omega
    have := hd d h
    omega
  refine ⟨hlen', hsm, fun k hk => ?_⟩
  have blank : ∀ j, j < 9 → O.cps.toList[4 + j]? = some 32 := by
    intro j hj
    rw [hcps, List.getElem?_append_right (by simp), List.getElem?_append_left (by simp; omega)]
    simp only [List.length_cons, List.length_nil]
    rw [show 4 + j - (0 + 1 + 1 + 1 + 1) = j by omega, List.getElem?_replicate, if_pos (by omega)]
  have o2 : O.cps.toList[2]? = some 57 := by rw [hcps]; rfl
  have o3 : O.cps.toList[3]? = some 32 := by rw [hcps]; rfl
  have o23 : O.cps.toList[23]? = some 41 := by
    have e : O.cps.toList = ([50, 50, 57, 32] ++ (List.replicate b 32 ++ 40 :: ([c, c, c] ++ fg.cps.toList ++ [c]))) ++ [41] := by rw [hcps]; simp
    have hl2 : ([50, 50, 57, 32] ++ (List.replicate b 32 ++ 40 :: ([c, c, c] ++ fg.cps.toList ++ [c]))).length = 23 := by
      simp only [List.length_append, List.length_cons, List.length_nil, List.length_replicate, hfl]
      omega
    rw [e, List.getElem?_append_right (by omega), hl2]
    rfl
  have hw : (Str.ofString "229").cps.toList = [50, 50, 57] := by decide +kernel
  have rest : ∀ i : Nat, 0 < i → i ∣ 24 → i ≠ 1 → (Txt.slice (turnW O i) none (some 3) != Str.ofString "229") = true → PortAs O (i : Int) n (portDat O n (i : Int)) := by
    intro i h0 hdv h1 hs
    refine .inr ⟨by rw [Int.toNat_natCast]; exact hs, ?_⟩
    unfold portDat
    rw [if_neg (by omega)]
    unfold dueOf
    rw [Int.toNat_natCast, turn_round hsm h0 (by rw [hlen']; exact hdv)]
  have head : ∀ i q : Nat, 0 < i → 24 = q * i → O.cps.toList[i - 1]? ≠ some 50 → (Txt.slice (turnW O i) none (some 3) != Str.ofString "229") = true := by
    intro i q h0 hq h
    refine not_lit hw (by rw [turnW_length, hlen']; decide) (.inl ?_)
    rw [turn_head hsm h0 (by rw [hlen']; exact hq) (by rcases Nat.eq_zero_or_pos q with h | h; · rw [h] at hq; omega
                                                       · exact h)]
    exact h
  simp only [wl24, List.mem_cons, List.not_mem_nil, or_false] at hk
  rcases hk with rfl | rfl | rfl | rfl | rfl | rfl | rfl | rfl
  · refine .inl ⟨fg, b, c, ?_, hc, fun d h => ?_, hn, ?_⟩
    · rw [show (1 : Int).toNat = 1 from rfl, turn_one1 hsm, hcps]
    · have := hd d h
      exact ⟨this.2.2, by omega⟩
    · rw [show (1 : Int).toNat = 1 from rfl, turn_one1 hsm]
      rfl
  · refine rest 2 (by decide) (by decide) (by decide) (not_lit hw (by rw [turnW_length, hlen']; decide) (.inr ?_))
    rw [turnW_rnd hsm (by decide) (n := 12) hlen', rnd_get 2 (by decide) 12 _ 2 hlen (by decide)]
    show O.cps.toList[3]? ≠ some 57
    rw [o3]; decide
  · exact rest 3 (by decide) (by decide) (by decide) (head 3 8 (by decide) rfl (by show O.cps.toList[2]? ≠ _; rw [o2]; decide))
  · exact rest 4 (by decide) (by decide) (by decide) (head 4 6 (by decide) rfl (by show O.cps.toList[3]? ≠ _; rw [o3]; decide))
  · exact rest 6 (by decide) (by decide) (by decide) (head 6 4 (by decide) rfl (by show O.cps.toList[4 + 1]? ≠ _; rw [blank 1 (by decide)]; decide))
  · exact rest 8 (by decide) (by decide) (by decide) (head 8 3 (by decide) rfl (by show O.cps.toList[4 + 3]? ≠ _; rw [blank 3 (by decide)]; decide))
  · exact rest 12 (by decide) (by decide) (by decide) (head 12 2 (by decide) rfl (by show O.cps.toList[4 + 7]? ≠ _; rw [blank 7 (by decide)]; decide))
  · exact rest 24 (by decide) (by decide) (by decide) (head 24 1 (by decide) rfl (by show O.cps.toList[23]? ≠ _; rw [o23]; decide))
theorem port_eq (O : Str) (n : Int) : wl24.map (portDat O n) = [.list [.str O, .tuple [.str (Str.ofString "host"), .int n]]] ++ (wl24.drop 1).map (dueOf O) := by
  simp [wl24, portDat]
/- shapes -/
theorem small_ok {x : Str} (h : ∀ c ∈ x.cps.toList, c < 256) : PyData.strOk x = true := by
  unfold PyData.strOk
  rw [Array.all_eq_true_iff_forall_mem]
  intro c hc
  have := h c (by simpa using hc)
  simp only [decide_eq_true_eq]
  omega
theorem lay_all : ∀ ds : List PyData, (∀ d ∈ ds, d.canLay0 = true ∧ d.depth ≤ 3) → PyData.canLayAll0 ds = true ∧ PyData.depthAll ds ≤ 3
  | [], _ => ⟨rfl, by simp [PyData.depthAll]⟩
  | d :: r, h => by
    have ih := lay_all r fun e he => h e (List.mem_cons_of_mem _ he)
    have hd := h d (List.Mem.head _)
    refine ⟨by simp [PyData.canLayAll0, hd.1, ih.1], ?_⟩
    simp only [PyData.depthAll]
    omega
theorem shaped_all {ds : List PyData} (h : ∀ d ∈ ds, d.canLay0 = true ∧ d.depth ≤ 3) : SeqAt.shaped (.list ds) = true := by
  obtain ⟨h1, h2⟩ := lay_all ds h
  show (PyData.canLayAll0 ds && decide (PyData.depthAll ds + 1 ≤ 64)) = true
  rw [h1, Bool.true_and]
  exact decide_eq_true (by omega)
theorem due_lay {x : Str} {k : Int} (h : PyData.strOk (roundOf x k.toNat) = true) : (dueOf x k).canLay0 = true ∧ (dueOf x k).depth ≤ 3 := by
  have h2 : PyData.strOk (Str.ofString "refused") = true := by decide +kernel
  simp [dueOf, PyData.canLay0, PyData.canLayAll0, PyData.depth, PyData.depthAll, h, h2]
theorem round_ok {x : Str} {k : Nat} (h : ∀ c ∈ x.cps.toList, c < 256) (hk : 0 < k) (hd : k ∣ x.length) : PyData.strOk (roundOf x k) = true := by
  rw [← turn_round h hk hd]
  refine small_ok fun c hc => ?_
  unfold turnW chrs at hc
  simp only [Array.toList_map, List.mem_map] at hc
  obtain ⟨u, _, rfl⟩ := hc
  exact u.toNat_lt
theorem dat_shaped {R a b : Str} (hR : ∀ c ∈ R.cps.toList, c < 256) (hl : R.length = 48) (ha : ∀ c ∈ a.cps.toList, c < 256) (hb : ∀ c ∈ b.cps.toList, c < 256) : SeqAt.shaped (.list (wl48.map (datOf R a b))) = true := by
  refine shaped_all fun d hd => ?_
  obtain ⟨k, hk, rfl⟩ := List.mem_map.mp hd
  unfold datOf
  split
  · simp [PyData.canLay0, PyData.canLayAll0, PyData.depth, PyData.depthAll, small_ok hR, small_ok ha]
  split
  · have hr : PyData.strOk (rev R) = true := small_ok fun c hc => hR c (by simpa [rev] using hc)
    simp [PyData.canLay0, PyData.canLayAll0, PyData.depth, PyData.depthAll, hr, small_ok hb]
  · obtain ⟨n, rfl, h0, hdv, _⟩ := wl48_ok hk
    exact due_lay (by rw [Int.toNat_natCast]; exact round_ok hR h0 (by rw [hl]; exact hdv))
theorem port_shaped {O : Str} {n : Int} (hO : ∀ c ∈ O.cps.toList, c < 256) (hl : O.length = 24) : SeqAt.shaped (.list (wl24.map (portDat O n))) = true := by
  refine shaped_all fun d hd => ?_
  obtain ⟨k, hk, rfl⟩ := List.mem_map.mp hd
  unfold portDat
  split
  · have h2 : PyData.strOk (Str.ofString "host") = true := by decide +kernel
    simp [PyData.canLay0, PyData.canLayAll0, PyData.depth, PyData.depthAll, small_ok hO, h2]
  · obtain ⟨i, rfl, h0, hdv, _⟩ := wl24_ok hk
    exact due_lay (by rw [Int.toNat_natCast]; exact round_ok hO h0 (by rw [hl]; exact hdv))
theorem eqv_of {d e : PyData} (h : d = e) (hs : SeqAt.shaped d = true) : PyData.eqv d e = true := h ▸ SeqAt.eqv_refl d (SeqAt.canLay_of_shaped hs)
end Mine
end
theorem Mine.off_L2a : True := by
  w_top off
  trivial
section
open PySem PySem.W PyProof.Rows PySem.Calls
set_option Elab.async false
set_option maxRecDepth 100000
set_option maxHeartbeats 8000000
namespace Mine
theorem two_ints {vs : List Value} {is : List Int} (h : IntsAre vs (List.take 2 is ++ List.drop ((List.take 2 is).length : Int).toNat [171, 38])) :
    ∃ n0 n1 t0 t1, vs = [.int n0 t0, .int n1 t1] := by
  have hl : (List.take 2 is ++ List.drop ((List.take 2 is).length : Int).toNat [171, 38]).length = 2 := by
    simp only [List.length_append, List.length_take, List.length_drop, List.length_cons, List.length_nil]
    omega
  generalize List.take 2 is ++ List.drop ((List.take 2 is).length : Int).toNat [171, 38] = l at h hl
  match l, hl, h with
  | [a, b], _, .cons _ t0 (.cons _ t1 .nil) => exact ⟨a, b, t0, t1, rfl⟩
theorem news_pick3 {h₀ h : Heap} {L : Addr} {a b c d e f g : Addr × Obj} (N : News h₀ L h [a, b, c, d, e, f, g]) : News h₀ L h [a, f, g] := fun q hq => N q (by
  simp only [List.mem_cons, List.not_mem_nil, or_false] at hq ⊢
  rcases hq with rfl | rfl | rfl <;> simp)
theorem law2_stage1 (w : World) (mean : ExcName → Option Value) (mg mb : Str → Option Value) (h₀ : Heap) (L fa ax : Addr) (cd : Value) (vs : List Value) (is : List Int) (s : Shared) (Q : Flow → Shared → Prop) (a1 a2 : Addr) (o1 o2 : Obj) (m : Str → Option Value) :
  ∀ (K0 : Below callerA h₀ [] h₀) (X : (hd2.heap_39 w.params).In h₀) (T : Top hd2.view_39 (looseW hd2.view_39 []) mean mg mb h₀)
  (F : Fr h₀ L s.heap (fun y => if y = Str.ofString "script" then some (.ref ax) else m y)) (N : News h₀ L s.heap [(a1, o1), (a2, o2)]) (hL : h₀.IsList ax vs.toArray) (hI : IntsAre vs is) (hn : ¬((63 : Nat) : Int) < (is.length : Int))
  (k : ∀ (n0 n1 : Int) (ta tb : Tok) (h' : Heap) (tk : Nat), 0 < tk → Fr h₀ L h' (fun y => if y = Str.ofString "two" then some (.str (nameOf2 n1) tb) else if y = Str.ofString "one" then some (.str (nameOf2 n0) ta) else if y = Str.ofString "script" then some (.ref ax) else m y) →
    News h₀ L h' [(a1, o1), (a2, o2)] → 
    wpR (model PySem.Challenge.rw_pe0048_02.row.prog w) (callerA.deeper (envOfC law2_d.name law2_d.scope L fa cd)) (execs law2_d.body.tail (envOfC law2_d.name law2_d.scope L fa cd)) Q (fun _ _ => False) { s with heap := h', toks := tk }),
  wpR (model PySem.Challenge.rw_pe0048_02.row.prog w) (callerA.deeper (envOfC law2_d.name law2_d.scope L fa cd)) (execs law2_d.body (envOfC law2_d.name law2_d.scope L fa cd)) Q (fun _ _ => False) s := by
  k_fill
  dsimp only [law2_d, recOf, List.tail_cons]
  intro K0 X T F N hL hI hn k
  refine R_stmt ?_
  generalize hE : (fun (_ : Value) (_ : Shared) => False) = E0 at k ⊢
  generalize hk : wpR (model PySem.Challenge.rw_pe0048_02.row.prog w) _ _ Q E0 = K9 at k ⊢
  iterate 1 (first | walk1 | (dsimp only; walk1))
  k_dflt (refine LCg.ListComp_U (F₀ := by k_asm) (by with_unfolding_all rfl) (by decide) (by rfl) (by decide) (by rfl) ?_)
  iterate 8 (first | walk1 | (dsimp only; walk1))
  k_dflt (refine' kmk_slice_ints ?v1a ?v1b ?v1c ?v1d ?v1e ?v1f ?v1g ?v1h ?_ ?v1i ?v1j ?v1k; (case v1a => k_asm); (case v1b => k_asm); (case v1c => kmk_list); (case v1d => kmk_part); (case v1e => kmk_part); (case v1f => l_ints); (case v1g => kmk_nums); (case v1h => kmk_len); (case v1i => with_unfolding_all rfl); (case v1j => kmk_pure); (case v1k => kmk_size)); intro D' ws' h' F' N' l1 hI' hC' hL'; (try simp only [Int.reduceNeg, Int.neg_neg, Int.reduceToNat] at hI' hC' hL'); (try k_lt l1); (try k_sweep)
  iterate 21 (first | walk1 | (dsimp only; walk1))
  k_dflt (refine' kmk_slice_ints ?v2a ?v2b ?v2c ?v2d ?v2e ?v2f ?v2g ?v2h ?_ ?v2i ?v2j ?v2k; (case v2a => k_asm); (case v2b => k_asm); (case v2c => kmk_list); (case v2d => kmk_part); (case v2e => kmk_part); (case v2f => l_ints); (case v2g => kmk_nums); (case v2h => kmk_len); (case v2i => with_unfolding_all rfl); (case v2j => kmk_pure); (case v2k => kmk_size)); intro D' ws' h' F' N' l1 hI' hC' hL'; (try simp only [Int.reduceNeg, Int.neg_neg, Int.reduceToNat] at hI' hC' hL'); (try k_lt l1); (try k_sweep)
  iterate 4 (first | walk1 | (dsimp only; walk1))
  k_dflt (refine kba_turn (value' := PySem.Expr.Name (PySem.Str.ofString "_") ⟨0, 0, 0, 0⟩) (fun _ => rfl) ?_)
  k_dflt (refine' kmk_slice_ints ?v3a ?v3b ?v3c ?v3d ?v3e ?v3f ?v3g ?v3h ?_ ?v3i ?v3j ?v3k; (case v3a => k_asm); (case v3b => k_asm); (case v3c => kmk_list); (case v3d => kmk_part); (case v3e => kmk_part); (case v3f => l_ints); (case v3g => exact kmk_from (by l_ints) (Int.natCast_nonneg _)); (case v3h => exact List.length_drop ..); (case v3i => with_unfolding_all rfl); (case v3j => kmk_pure); (case v3k => exact Nat.le_of_ble_eq_true rfl)); intro D' ws' h' F' N' l1 hI' hC' hL'; (try simp only [Int.reduceNeg, Int.neg_neg, Int.reduceToNat] at hI' hC' hL'); (try k_lt l1); (try k_sweep)
  k_dflt (refine' kmk_add_ints ?v4a ?v4b ?v4c ?v4d ?v4e ?v4f ?_ ?v4g; (case v4a => k_asm); (case v4b => k_asm); (case v4c => kmk_list); (case v4d => kmk_list); (case v4e => l_ints); (case v4f => l_ints); (case v4g => (simp only [sizeLine_eq, List.length_take, List.length_drop, List.length_cons, List.length_nil]; omega))); intro D' ws' h' F' N' l1 hI'; (try k_lt l1); (try k_sweep)
  with_reducible rename IntsAre _ (_ ++ _) => I9
  obtain ⟨n0, n1, t0, t1, rfl⟩ := two_ints I9
  with_reducible rename Fr h₀ L _ _ => F9
  with_reducible rename News h₀ L _ _ => N9
  have N8 := news_pick3 N9
  clear N9 I9 hI
  k_dflt (refine LCg.CompSrc.ledger (by rfl) (by k_asm) (by k_asm) (by k_mem) (by first | size_fits | exact Nat.le_of_ble_eq_true rfl) ?_; intro g'; lcg_lit)
  iterate 9 (first | walk1 | (dsimp only; walk1))
  refine name_d w mean mg mb _ _ _ _ _ _ _ _ fa cd _ [] callerA h₀ h₀ L _ _ _ _ K0 (by assumption) X (by assumption) T rfl trivial (Nat.le_of_ble_eq_true rfl) (Nat.le_of_ble_eq_true rfl) ?_
  intro t h' tk' F N
  walk1
  iterate 9 (first | walk1 | (dsimp only; walk1))
  refine name_d w mean mg mb _ _ _ _ _ _ _ _ fa cd _ [] callerA h₀ h₀ L _ _ _ _ K0 (by assumption) X (by assumption) T rfl trivial (Nat.le_of_ble_eq_true rfl) (Nat.le_of_ble_eq_true rfl) ?_
  intro t h' tk' F N
  walk1
  repeat (first | walk1 | (dsimp only; walk1))
  with_reducible rename Fr h₀ L _ _ => F9
  with_reducible rename News h₀ L _ _ => N9
  exact k n0 n1 _ _ _ _ (Nat.succ_pos _) F9 (fun q hq => N9 q (List.mem_cons_of_mem _ (List.mem_cons_of_mem _ hq)))
end Mine
end
theorem Mine.off_L2b : True := by
  w_top off
  trivial
section
open PySem PySem.W PyProof.Rows PySem.Calls
set_option Elab.async false
set_option maxRecDepth 100000
set_option maxHeartbeats 8000000
namespace Mine
theorem law2_stage2 (w : World) (mean : ExcName → Option Value) (mg mb : Str → Option Value) (h₀ : Heap) (L fa : Addr) (cd : Value) (a b : Str) (ta tb : Tok) (hp : Heap) (tk0 : Nat) (s : Shared) (Q : Flow → Shared → Prop) (a1 a2 : Addr) (o1 o2 : Obj) (m : Str → Option Value) (htk : 0 < tk0) (ha : a.length ≤ 100) (hb : b.length ≤ 100) :
  ∀ (K0 : Below callerA h₀ [] h₀) (X : (hd2.heap_39 w.params).In h₀) (T : Top hd2.view_39 (looseW hd2.view_39 []) mean mg mb h₀)
  (F : Fr h₀ L hp (fun y => if y = Str.ofString "two" then some (.str b tb) else if y = Str.ofString "one" then some (.str a ta) else m y)) (N : News h₀ L hp [(a1, o1), (a2, o2)])
  (k : ∀ (t1 t2 : Tok) (h' : Heap) (tk : Nat), 0 < tk → Fr h₀ L h' (fun y => if y = Str.ofString "first" then some (.str (dq a) t1) else if y = Str.ofString "second" then some (.str (rev (dq b)) t2) else if y = Str.ofString "two" then some (.str b tb) else if y = Str.ofString "one" then some (.str a ta) else m y) →
    News h₀ L h' [(a1, o1), (a2, o2)] → 
    wpR (model PySem.Challenge.rw_pe0048_02.row.prog w) (callerA.deeper (envOfC law2_d.name law2_d.scope L fa cd)) (execs law2_d.body.tail.tail (envOfC law2_d.name law2_d.scope L fa cd)) Q (fun _ _ => False) { s with heap := h', toks := tk }),
  wpR (model PySem.Challenge.rw_pe0048_02.row.prog w) (callerA.deeper (envOfC law2_d.name law2_d.scope L fa cd)) (execs law2_d.body.tail (envOfC law2_d.name law2_d.scope L fa cd)) Q (fun _ _ => False) { s with heap := hp, toks := tk0 } := by
  k_fill
  dsimp only [law2_d, recOf, List.tail_cons]
  intro K0 X T F N k
  refine R_stmt ?_
  generalize hE : (fun (_ : Value) (_ : Shared) => False) = E0 at k ⊢
  generalize hk : wpR (model PySem.Challenge.rw_pe0048_02.row.prog w) _ _ Q E0 = K9 at k ⊢
  repeat (first | walk1 | (dsimp only; walk1))
  refine replace_up (Nat.ne_of_gt htk) (Nat.succ_ne_zero _) (Nat.ne_of_lt (Nat.lt_succ_self _)) (by decide +kernel) (by rw [show (Str.ofString "\"\"").length = 2 from by decide +kernel]; omega) ?_
  intro t1 k1 hk1
  have hA1 := dq_length a
  generalize hA : dq a = a1' at hA1 k
  unfold dq at hA
  rw [hA]
  clear hA
  dsimp only
  repeat (first | walk1 | (dsimp only; walk1))
  refine replace_up (Nat.ne_of_gt (Nat.lt_of_lt_of_le (Nat.succ_pos _) hk1)) (Nat.succ_ne_zero _) (Nat.ne_of_lt (Nat.lt_succ_self _)) (by decide +kernel) (by rw [show (Str.ofString "\"\"").length = 2 from by decide +kernel]; omega) ?_
  intro t2 k2 hk2
  have hB1 := dq_length b
  generalize hB : dq b = b1 at hB1 k
  unfold dq at hB
  rw [hB]
  clear hB
  dsimp only
  iterate 8 (first | walk1 | (dsimp only; walk1))
  rw [sliceBy_rev]
  repeat (first | walk1 | (dsimp only; walk1))
  with_reducible rename Fr h₀ L _ _ => F9
  with_reducible rename News h₀ L _ _ => N9
  exact k _ _ _ _ (Nat.succ_pos _) F9 (fun q hq => N9 q (List.mem_cons_of_mem _ hq))
end Mine
end
theorem Mine.off_L2d : True := by
  w_top off
  trivial
section
open PySem PySem.W PyProof.Rows PySem.Calls
set_option Elab.async false
set_option maxRecDepth 100000
set_option maxHeartbeats 8000000
namespace Mine
theorem news_last2 {h₀ h : Heap} {L : Addr} {a b c d e f : Addr × Obj} (N : News h₀ L h [a, b, c, d, e, f]) : News h₀ L h [e, f] := fun q hq => N q (List.mem_append_right [a, b, c, d] hq)
theorem law2_stage4 (w : World) (mean : ExcName → Option Value) (mg mb : Str → Option Value) (h₀ : Heap) (L fa ax : Addr) (cd : Value) (vs : List Value) (is : List Int) (v1 v2 v3 v4 : Value) (hp : Heap) (tk0 : Nat) (s : Shared) (Q : Flow → Shared → Prop) (o1 o2 : Obj) (m : Str → Option Value) :
  ∀ (K0 : Below callerA h₀ [] h₀) (X : (hd2.heap_39 w.params).In h₀) (T : Top hd2.view_39 (looseW hd2.view_39 []) mean mg mb h₀) (hL : h₀.IsList ax vs.toArray) (hI : IntsAre vs is) (hn : ¬((63 : Nat) : Int) < (is.length : Int))
  (F : Fr h₀ L hp (fun y => if y = Str.ofString "first" then some v1 else if y = Str.ofString "second" then some v2 else if y = Str.ofString "two" then some v3 else if y = Str.ofString "one" then some v4 else if y = Str.ofString "script" then some (.ref ax) else m y)) (N : News h₀ L hp [(L + 1 + 1, o2), (L + 1, o1)])
  (k : ∀ (mk : Str) (t1 t2 : Tok) (h' : Heap) (tk : Nat), (mk = Str.ofString "|" ∨ mk = Str.ofString "a" ∨ mk = Str.ofString "7") →
    Fr h₀ L h' (fun y => if y = Str.ofString "mark" then some (.str mk t1) else if y = Str.ofString "port" then some (.int ((is.take 2).sum.fmod 65536) t2) else if y = Str.ofString "first" then some v1 else if y = Str.ofString "second" then some v2 else if y = Str.ofString "two" then some v3 else if y = Str.ofString "one" then some v4 else if y = Str.ofString "script" then some (.ref ax) else m y) →
    News h₀ L h' [(L + 1 + 1, o2), (L + 1, o1)] → 
    wpR (model PySem.Challenge.rw_pe0048_02.row.prog w) (callerA.deeper (envOfC law2_d.name law2_d.scope L fa cd)) (execs law2_d.body.tail.tail.tail.tail (envOfC law2_d.name law2_d.scope L fa cd)) Q (fun _ _ => False) { s with heap := h', toks := tk }),
  wpR (model PySem.Challenge.rw_pe0048_02.row.prog w) (callerA.deeper (envOfC law2_d.name law2_d.scope L fa cd)) (execs law2_d.body.tail.tail.tail (envOfC law2_d.name law2_d.scope L fa cd)) Q (fun _ _ => False) { s with heap := hp, toks := tk0 } := by
  k_fill
  dsimp only [law2_d, recOf, List.tail_cons]
  intro K0 X T hL hI hn F N k
  refine R_stmt ?_
  generalize hE : (fun (_ : Value) (_ : Shared) => False) = E0 at k ⊢
  generalize hk : wpR (model PySem.Challenge.rw_pe0048_02.row.prog w) _ _ Q E0 = K9 at k ⊢
  repeat (first | walk1 | (dsimp only; walk1))
  all_goals (repeat (first | walk1 | (dsimp only; walk1)))
  all_goals (with_reducible rename Fr h₀ L _ _ => F9)
  all_goals (with_reducible rename News h₀ L _ _ => N9)
  · exact k _ _ _ _ _ (.inl rfl) F9 (news_last2 N9)
  · exact k _ _ _ _ _ (.inr (.inl rfl)) F9 (news_last2 N9)
  · exact k _ _ _ _ _ (.inr (.inr rfl)) F9 (news_last2 N9)
end Mine
end
theorem Mine.off_L2g : True := by
  w_top off
  trivial
section
open PySem PySem.W PyProof.Rows PySem.Calls PyProof.Rows.LCg PyProof.Rows.LCt
set_option Elab.async false
set_option maxRecDepth 100000
set_option maxHeartbeats 8000000
namespace Mine
theorem ints_snoc {vs : List Value} {ns : List Int} {k : Int} {t : Tok} (h : IntsAre vs ns) : IntsAre (vs ++ [.int k t]) (ns ++ [k]) := by
  induction h with
  | nil => exact .cons _ _ .nil
  | cons i u _ ih => exact .cons i u ih
/-- the numbers of a range that a test lets through -/
theorem comp_filter {prog : Program} {w : World} {A : Around} {h₀ : Heap} {L : Addr} {m : Str → Option Value} {env : Env} {ct elt : Expr} {x : Str} {scope : Scope} {cl : List (Str × Addr)} {s : Shared} {S : List (Addr × Obj) → Prop} {Fin : List Value → List (Addr × Obj) → Prop} {n : Nat} {a : Int} {news : List (Addr × Obj)} (p : Int → Bool)
    (turn : ∀ (i : Nat) t I oI C oC D m₂ ys h tk (E' : Value → Shared → Prop) (R : Value → List (Addr × Obj) → Prop) (R' : List (Addr × Obj) → Prop), i < n → NsObj oC m₂ → m₂ x = some (.int (a + i) t) → Fr h₀ L h m → News h₀ L h ((I, oI) :: (C, oC) :: (D, lst ys) :: news) → Off3 I C D news → ((@Ne Nat I C) ∧ (@Ne Nat I D) ∧ (@Ne Nat C D)) →
      (p (a + i) = true → ∀ u, R (.int (a + i) u) news) → (p (a + i) = false → R' news) →
      wpAny (model prog w) A (isTrue ct (compEnvC scope cl C env) (eval ct (compEnvC scope cl C env))) (fun ok s' => if ok = true then
        wpAny (model prog w) A (eval elt (compEnvC scope cl C env)) (CompEnd h₀ L m { s with heap := h, toks := tk } I oI C oC D (lst ys) S R) E' s'
        else CompEnd h₀ L m { s with heap := h, toks := tk } I oI C oC D (lst ys) S (fun _ => R') Value.none s') E' { s with heap := h, toks := tk })
    (fin : ∀ ys, IntsAre ys (((List.range n).map fun (i : Nat) => a + (i : Int)).filter p) → Fin ys news) : CompRestT prog w A h₀ L m env ct elt x scope cl s S (fun i v => ∃ t, v = .int (a + (i : Int)) t) Fin n 0 [] news := by
  have key : ∀ (j i : Nat) (ys : List Value), i + j = n → IntsAre ys (((List.range i).map fun (i : Nat) => a + (i : Int)).filter p) → CompRestT prog w A h₀ L m env ct elt x scope cl s S (fun i v => ∃ t, v = .int (a + (i : Int)) t) Fin j i ys news := by
    intro j
    induction j with
    | zero =>
      intro i ys hi hy
      have e : i = n := by omega
      subst e
      exact CompRestT.zero (fin ys hy)
    | succ j ih =>
      intro i ys hi hy
      refine CompRestT.succ ?_
      intro v I oI C oC D m₂ h tk E' hv hC hx F N off ne
      obtain ⟨t, rfl⟩ := hv
      refine turn i t I oI C oC D m₂ ys h tk E' _ _ (by omega) hC hx F N off ne (fun hp u => ?_) fun hp => ?_
      · refine ih (i + 1) _ (by omega) ?_
        rw [List.range_succ, List.map_append, List.filter_append, List.map_cons, List.map_nil, List.filter_cons, hp]
        exact ints_snoc hy
      · refine ih (i + 1) _ (by omega) ?_
        rw [List.range_succ, List.map_append, List.filter_append, List.map_cons, List.map_nil, List.filter_cons, hp]
        simpa using hy
  exact key n 0 [] (by omega) (by simpa using IntsAre.nil)
theorem law2_stage7 (w : World) (mean : ExcName → Option Value) (mg mb : Str → Option Value) (h₀ : Heap) (L fa : Addr) (cd : Value) (hp : Heap) (tk0 : Nat) (s : Shared) (Q : Flow → Shared → Prop) (o1 o2 : Obj) (m : Str → Option Value) :
  ∀ (K0 : Below callerA h₀ [] h₀) (X : (hd2.heap_39 w.params).In h₀) (T : Top hd2.view_39 (looseW hd2.view_39 []) mean mg mb h₀)
  (F : Fr h₀ L hp m) (N : News h₀ L hp [(L + 1 + 1, o2), (L + 1, o1)])
  (k : ∀ (D : Addr) (ws : List Value) (h' : Heap) (tk : Nat), IntsAre ws [1, 2, 3, 4, 6, 8, 12, 16, 24, 48] → Fr h₀ L h' (fun y => if y = Str.ofString "widths" then some (.ref D) else m y) →
    News h₀ L h' [(D, lst ws), (L + 1 + 1, o2), (L + 1, o1)] → L + 1 + 1 ≠ D ∧ L + 1 ≠ D →
    wpR (model PySem.Challenge.rw_pe0048_02.row.prog w) (callerA.deeper (envOfC law2_d.name law2_d.scope L fa cd)) (execs law2_d.body.tail.tail.tail.tail.tail.tail.tail (envOfC law2_d.name law2_d.scope L fa cd)) Q (fun _ _ => False) { s with heap := h', toks := tk }),
  wpR (model PySem.Challenge.rw_pe0048_02.row.prog w) (callerA.deeper (envOfC law2_d.name law2_d.scope L fa cd)) (execs law2_d.body.tail.tail.tail.tail.tail.tail (envOfC law2_d.name law2_d.scope L fa cd)) Q (fun _ _ => False) { s with heap := hp, toks := tk0 } := by
  k_fill
  dsimp only [law2_d, recOf, List.tail_cons]
  intro K0 X T F N k
  refine R_stmt ?_
  generalize hE : (fun (_ : Value) (_ : Shared) => False) = E0 at k ⊢
  generalize hk : wpR (model PySem.Challenge.rw_pe0048_02.row.prog w) _ _ Q E0 = K9 at k ⊢
  k_dflt (refine LCt.Assign_ListComp_T (F₀ := by k_asm) (by rfl) (by with_unfolding_all rfl) (by with_unfolding_all rfl) (by decide) (by rfl) (by decide) (by rfl) (by rfl) (by rfl) ?_)
  repeat (first | walk1 | (dsimp only; walk1))
  k_dflt (refine LCt.CompSrcT.range (n := 48) (by rfl) (by k_asm) (by k_asm) (by assumption) (by decide) (by rfl) (Nat.le_of_ble_eq_true rfl) ?_; intro g')
  with_reducible rename News h₀ L _ _ => N9
  with_reducible rename Fr h₀ L _ m => F9
  clear N9 F9
  refine comp_filter (fun k => decide ((48 : Int).fmod k = 0)) ?_ ?_
  · intro i t I oI C oC D m₂ ys h tk E' R R' hi hC hx F N off ne hR hR'
    simp only [LCg.Off3, and_true] at off
    repeat (first | walk1 | (dsimp only; walk1))
    all_goals (repeat (first | walk1 | (dsimp only; walk1)))
    · exact hR (decide_eq_true (by assumption)) _
    · exact hR' (decide_eq_false (by assumption))
  · intro ys hy
    have e : List.filter (fun k => decide ((48 : Int).fmod k = 0)) (List.map (fun (i : Nat) => 1 + (i : Int)) (List.range 48)) = [1, 2, 3, 4, 6, 8, 12, 16, 24, 48] := by decide +kernel
    rw [e] at hy
    unfold LCg.FinA
    intro D h tk F N o1
    simp only [LCg.Off1, and_true] at o1
    subst hk
    exact k _ _ _ _ hy F N o1
end Mine
end
theorem Mine.off_L2j : True := by
  w_top off
  trivial
section
open PySem PySem.W PyProof.Rows PySem.Calls PyProof.Rows.LCg PyProof.Rows.LCt
set_option Elab.async false
set_option maxRecDepth 100000
set_option maxHeartbeats 8000000
namespace Mine
theorem law2_stage10 (w : World) (mean : ExcName → Option Value) (mg mb : Str → Option Value) (h₀ : Heap) (L fa : Addr) (cd : Value) (hp : Heap) (tk0 : Nat) (s : Shared) (Q : Flow → Shared → Prop) (o1 o2 : Obj) (m : Str → Option Value) :
  ∀ (K0 : Below callerA h₀ [] h₀) (X : (hd2.heap_39 w.params).In h₀) (T : Top hd2.view_39 (looseW hd2.view_39 []) mean mg mb h₀)
  (F : Fr h₀ L hp m) (N : News h₀ L hp [(L + 1 + 1, o2), (L + 1, o1)])
  (k : ∀ (D : Addr) (ws : List Value) (h' : Heap) (tk : Nat), IntsAre ws [1, 2, 3, 4, 6, 8, 12, 24] → Fr h₀ L h' (fun y => if y = Str.ofString "widths_two" then some (.ref D) else m y) →
    News h₀ L h' [(D, lst ws), (L + 1 + 1, o2), (L + 1, o1)] → L + 1 + 1 ≠ D ∧ L + 1 ≠ D →
    wpR (model PySem.Challenge.rw_pe0048_02.row.prog w) (callerA.deeper (envOfC law2_d.name law2_d.scope L fa cd)) (execs law2_d.body.tail.tail.tail.tail.tail.tail.tail.tail.tail.tail (envOfC law2_d.name law2_d.scope L fa cd)) Q (fun _ _ => False) { s with heap := h', toks := tk }),
  wpR (model PySem.Challenge.rw_pe0048_02.row.prog w) (callerA.deeper (envOfC law2_d.name law2_d.scope L fa cd)) (execs law2_d.body.tail.tail.tail.tail.tail.tail.tail.tail.tail (envOfC law2_d.name law2_d.scope L fa cd)) Q (fun _ _ => False) { s with heap := hp, toks := tk0 } := by
  k_fill
  dsimp only [law2_d, recOf, List.tail_cons]
  intro K0 X T F N k
  refine R_stmt ?_
  generalize hE : (fun (_ : Value) (_ : Shared) => False) = E0 at k ⊢
  generalize hk : wpR (model PySem.Challenge.rw_pe0048_02.row.prog w) _ _ Q E0 = K9 at k ⊢
  k_dflt (refine LCt.Assign_ListComp_T (F₀ := by k_asm) (by rfl) (by with_unfolding_all rfl) (by with_unfolding_all rfl) (by decide) (by rfl) (by decide) (by rfl) (by rfl) (by rfl) ?_)
  repeat (first | walk1 | (dsimp only; walk1))
  k_dflt (refine LCt.CompSrcT.range (n := 24) (by rfl) (by k_asm) (by k_asm) (by assumption) (by decide) (by rfl) (Nat.le_of_ble_eq_true rfl) ?_; intro g')
  with_reducible rename News h₀ L _ _ => N9
  with_reducible rename Fr h₀ L _ m => F9
  clear N9 F9
  refine comp_filter (fun k => decide ((24 : Int).fmod k = 0)) ?_ ?_
  · intro i t I oI C oC D m₂ ys h tk E' R R' hi hC hx F N off ne hR hR'
    simp only [LCg.Off3, and_true] at off
    repeat (first | walk1 | (dsimp only; walk1))
    all_goals (repeat (first | walk1 | (dsimp only; walk1)))
    · exact hR (decide_eq_true (by assumption)) _
    · exact hR' (decide_eq_false (by assumption))
  · intro ys hy
    have e : List.filter (fun k => decide ((24 : Int).fmod k = 0)) (List.map (fun (i : Nat) => 1 + (i : Int)) (List.range 24)) = [1, 2, 3, 4, 6, 8, 12, 24] := by decide +kernel
    rw [e] at hy
    unfold LCg.FinA
    intro D h tk F N o1
    simp only [LCg.Off1, and_true] at o1
    subst hk
    exact k _ _ _ _ hy F N o1
end Mine
end
theorem Mine.off_L2l : True := by
  w_top off
  trivial
section
open PySem PySem.W PyProof.Rows PySem.Calls PyProof.Rows.LCg
set_option Elab.async false
set_option maxRecDepth 100000
set_option maxHeartbeats 8000000
namespace Mine
section
variable {M : Model} {A : Around} {E : Value → Shared → Prop} {s : Shared} {env : Env}
theorem R_cmpE2 {l r : Expr} {op : CmpOp} {pos : Pos} {Q : Value → Shared → Prop}
    (h : wpAny M A (eval l env) (fun a s₁ => wpR M A (eval r env) (fun b s₂ => wpAny M A (compareOp op a b) Q E s₂) E s₁) E s)
    (hm : behindInMarks op r = false := by with_unfolding_all rfl) : wpR M A (eval (.Compare l [op] [r] pos) env) Q E s := fun Γ p hΓ h1 h2 => by
  simp only [eval_Compare1, markedBehindIn_of_false hm, Sem.wp_bind', Sem.wp_holding, Sem.wp_cmd_standAt, Sem.wp_operate]
  exact Sem.wp_mono M Γ _ (fun a p₁ s₁ h₁ => Sem.wp_mono M Γ _ (fun b _ s₂ h₂ => h₂ Γ _ hΓ) (fun _ _ _ h' => h') _ _ (h₁ Γ p₁ hΓ h1 h2))
    (fun _ _ _ h' => h') _ _ (h Γ p hΓ)
theorem R_binop2 {l r : Expr} {op : Operator} {pos : Pos} {Q : Value → Shared → Prop}
    (h : wpAny M A (eval l env) (fun a s₁ => wpR M A (eval r env) (fun b s₂ => wpAny M A (binaryOp op a b) Q E s₂) E s₁) E s) :
    wpR M A (eval (.BinOp l op r pos) env) Q E s := fun Γ p hΓ h1 h2 => by
  simp only [eval_BinOp, Sem.wp_bind', Sem.wp_holding, Sem.wp_cmd_standAt, Sem.wp_operate]
  exact Sem.wp_mono M Γ _ (fun a p₁ s₁ h₁ => Sem.wp_mono M Γ _ (fun b _ s₂ h₂ => h₂ Γ _ hΓ) (fun _ _ _ h' => h') _ _ (h₁ Γ p₁ hΓ h1 h2))
    (fun _ _ _ h' => h') _ _ (h Γ p hΓ)
end
theorem law2_stage12 (w : World) (mean : ExcName → Option Value) (mg mb : Str → Option Value) (h₀ : Heap) (L fa Dw Dt : Addr) (cd : Value) (ws ts : List Value) (x fg : Str) (tx tf : Tok) (n : Int) (dat : Int → PyData) (nwt : List (Addr × Obj)) (hp : Heap) (tk0 : Nat) (s : Shared) (Q : Flow → Shared → Prop) (o1 o2 : Obj) (m : Str → Option Value) (hx : x.length = 24) (hI : IntsAre ws wl24)
  (hn : PySem.intText? fg = some n) (hfl : fg.length ≤ 640) (heq : PyData.eqv (.list (wl24.map dat)) (.list ([.list [.str x, .tuple [.str (Str.ofString "host"), .int n]]] ++ (wl24.drop 1).map (dueOf x))) = true)
  (hsl : SeqAt.shaped (.list (wl24.map dat)) = true) (hsr : SeqAt.shaped (.list ([.list [.str x, .tuple [.str (Str.ofString "host"), .int n]]] ++ (wl24.drop 1).map (dueOf x))) = true) :
  ∀ (K0 : Below callerA h₀ [] h₀) (X : (hd2.heap_39 w.params).In h₀) (T : Top hd2.view_39 (looseW hd2.view_39 []) mean mg mb h₀)
  (F : Fr h₀ L hp (fun y => if y = Str.ofString "figures" then some (.str fg tf) else if y = Str.ofString "told" then some (.ref Dt) else if y = Str.ofString "widths_two" then some (.ref Dw) else m y)) (N : News h₀ L hp ((Dt, lst ts) :: (Dw, lst ws) :: (L + 1 + 1, o2) :: (L + 1, o1) :: nwt)) (c2 : o2.data = .cell (some (.str x tx)))
  (hT : HeldAll ((Dw, lst ws) :: (L + 1 + 1, o2) :: (L + 1, o1) :: nwt) ts (wl24.map dat))
  (k : ∀ (h' : Heap) (tk : Nat), Fr h₀ L h' (fun y => if y = Str.ofString "figures" then some (.str fg tf) else if y = Str.ofString "told" then some (.ref Dt) else if y = Str.ofString "widths_two" then some (.ref Dw) else m y) → Q (.ret (.bool true)) { s with heap := h', toks := tk }),
  wpR (model PySem.Challenge.rw_pe0048_02.row.prog w) (callerA.deeper (envOfC law2_d.name law2_d.scope L fa cd)) (execs law2_d.body.tail.tail.tail.tail.tail.tail.tail.tail.tail.tail.tail (envOfC law2_d.name law2_d.scope L fa cd)) Q (fun _ _ => False) { s with heap := hp, toks := tk0 } := by
  k_fill
  dsimp only [law2_d, recOf, List.tail_cons]
  intro K0 X T F N c2 hT k
  refine R_stmtR (R_return (R_cmpE2 ?_))
  walk1
  refine R_binop2 ?_
  repeat (first | walk1 | (dsimp only; walk1))
  with_reducible rename News h₀ L _ _ => N5
  with_reducible rename Fr h₀ L _ _ => F5
  dsimp only
  k_dflt (refine ListComp_R1 (h₀ := h₀) (L := L) (m := fun y => if y = Str.ofString "figures" then some (.str fg tf) else if y = Str.ofString "told" then some (.ref Dt) else if y = Str.ofString "widths_two" then some (.ref Dw) else m y) (by with_unfolding_all rfl) (by decide) (by rfl) (by decide) (by rfl) (wpR_of_any ?_))
  iterate 7 (first | walk1 | (dsimp only; walk1))
  with_reducible rename News h₀ L _ _ => N6
  with_reducible rename Fr h₀ L _ _ => F6
  refine kmk_slice_ints (vs := ws) (l := Dw) F6 N6 ⟨_, (N6 (Dw, lst ws) (by k_mem)).1, rfl, _, rfl⟩ (.int _ _) .none hI (kmk_from (x := 1) hI (by decide)) rfl ?_ (by with_unfolding_all rfl) (by intro _; with_unfolding_all rfl) (by rw [sizeLine_eq, List.size_toArray, hI.length]; decide)
  intro Ds us h7 F7 N7 l7 hIu hlu _
  k_lt l7
  dsimp only
  refine ⟨Ds, us.toArray, us.toArray.size, _, rfl, rfl, F7, N7, .inr ⟨_, List.Mem.head _, rfl, _, rfl⟩, rfl, by rw [sizeLine_eq, List.size_toArray, hIu.length]; decide, fun g => ?_⟩
  refine rest_held (wl24.drop 1) (dueOf x) (by simpa using hIu) (.inr ⟨_, List.Mem.head _, rfl, _, rfl⟩) ?_ ?_
  · intro k0 t I oI C oC D m₂ ys nw h tk hkm hC hxk F N off ne
    obtain ⟨i, rfl, hn0, hnd, hnle⟩ := wl24_ok (List.mem_of_mem_drop hkm)
    simp only [List.cons_append, List.nil_append] at N off ⊢
    simp only [LCg.Off3] at off
    refine wpR_of_any ?_
    iterate 12 (first | walk1 | (dsimp only; walk1))
    refine round_d w mean mg mb _ x i _ _ hn0 (by rw [hx]; exact hnd) (by omega) (by omega) _ _ _ _ _ fa cd _ [] callerA h₀ h₀ L _ _ _ _ K0 (by assumption) X (by assumption) T rfl trivial (Nat.le_of_ble_eq_true rfl) (Nat.le_of_ble_eq_true rfl) ?_
    intro t1 h1 tk1 F1 N1
    dsimp only
    iterate 15 (first | walk1 | (dsimp only; walk1))
    refine round_d w mean mg mb _ x i _ _ hn0 (by rw [hx]; exact hnd) (by omega) (by omega) _ _ _ _ _ fa cd _ [] callerA h₀ h₀ L _ _ _ _ K0 (by assumption) X (by assumption) T rfl trivial (Nat.le_of_ble_eq_true rfl) (Nat.le_of_ble_eq_true rfl) ?_
    intro t1 h1 tk1 F1 N1
    dsimp only
    iterate 4 (first | walk1 | (dsimp only; walk1))
    with_reducible rename Fr h₀ L _ _ => F9
    with_reducible rename News h₀ L _ (_ :: _ :: (I, oI) :: _) => N9
    with_reducible rename _ ∧ _ ∧ _ ∧ _ ∧ _ ∧ _ ∧ _ ∧ _ ∧ _ ∧ _ ∧ _ ∧ _ ∧ AllLt _ (nwt ++ nw) => l9
    with_reducible rename _ ∧ _ ∧ _ ∧ _ ∧ _ ∧ _ ∧ _ ∧ _ ∧ _ ∧ _ ∧ _ ∧ AllLt _ (nwt ++ nw) => l8
    refine ⟨_, _, [(_, _), (_, _)], rfl, F9, N9, fun p hp => ?_, .list (.head _) rfl rfl (.two (.str _ _) (.list (.tail _ (.head _)) rfl rfl (.two (.str _ _) (.str _ _))))⟩
    rcases List.mem_cons.mp hp with rfl | hp
    · exact ⟨Nat.ne_of_gt l9.2.1, Nat.ne_of_gt l9.2.2.1, Nat.ne_of_gt l9.2.2.2.1⟩
    · rw [List.mem_singleton.mp hp]
      exact ⟨Nat.ne_of_gt l8.1, Nat.ne_of_gt l8.2.1, Nat.ne_of_gt l8.2.2.1⟩
  · intro ys nw hH
    unfold LCg.FinE
    intro D h tk F N o9
    clear o9
    simp only [List.cons_append] at N hH
    have hys : ys.length = 7 := by rw [hH.length]; rfl
    dsimp only
    refine kmk_add_lit F N (News.isList N (by k_mem)) (News.isList N (.head _)) rfl ?_ (by simp only [List.length_cons, List.length_nil, hys, sizeLine_eq]; decide)
    intro D9 h9 F9 N9 l9
    obtain ⟨as1, r1⟩ := Held.reads (fun p hp => (N9 p hp).1) (Held.list (a := Dt) (n := ts.length) (by k_mem) rfl rfl (HeldAll.mono (fun p hp => List.mem_cons_of_mem _ (List.mem_cons_of_mem _ (List.mem_cons_of_mem _ (List.mem_cons_of_mem _ (List.mem_cons_of_mem _ (List.mem_cons_of_mem _ (List.mem_cons_of_mem _ (mem_app (l := [(Dw, lst ws), (L + 1 + 1, o2), (L + 1, o1)]) hp)))))))) hT))
    obtain ⟨as2, r2⟩ := Held.reads (fun p hp => (N9 p hp).1) (Held.list (a := D9) (n := 0) (List.Mem.head _) rfl rfl ((HeldAll.one (Held.list (by k_mem) rfl rfl (HeldAll.two (Held.str x tx) (Held.tuple (by k_mem) rfl rfl (HeldAll.two (Held.str (Str.ofString "host") _) (Held.int n _)))))).append (HeldAll.mono (fun p hp => List.mem_cons_of_mem _ (List.mem_cons_of_mem _ (hp))) hH)))
    k_dflt (refine eq_dataH r1 r2 hsl hsr (by ke_room) ?_)
    rw [heq]
    exact k _ _ F9
end Mine
end
theorem Mine.off_Main2 : True := by
  w_top off
  trivial
section
open PySem PySem.W PyProof.Rows PySem.Calls
set_option Elab.async false
set_option maxRecDepth 100000
set_option maxHeartbeats 8000000
namespace Mine
theorem fr_see {h₀ h : Heap} {L : Addr} {m : Str → Option Value} {x : Str} {v : Value} (F : Fr h₀ L h m) (e : m x = some v) : Fr h₀ L h (fun y => if y = x then some v else m y) := by
  have h : (fun y => if y = x then some v else m y) = m := by
    funext y
    split
    · rename_i q; rw [q, e]
    · rfl
  rw [h]; exact F
theorem nc_small {x : Str} (h : ∀ c ∈ x.cps.toList, NC c) : ∀ c ∈ x.cps.toList, c < 256 := fun c hc => (h c hc).1
/-- the law's whole body -/
theorem law2_body (w : World) (mean : ExcName → Option Value) (mg mb : Str → Option Value) (h₀ : Heap) (L fa ax : Addr) (cd : Value) (vs : List Value) (is : List Int) (hp : Heap) (tk0 : Nat) (s : Shared) (Q : Flow → Shared → Prop) (oA oB : Obj) (m : Str → Option Value)
    (K0 : Below callerA h₀ [] h₀) (X : (hd2.heap_39 w.params).In h₀) (T : Top hd2.view_39 (looseW hd2.view_39 []) mean mg mb h₀)
    (F : Fr h₀ L hp (fun y => if y = Str.ofString "script" then some (.ref ax) else m y)) (N : News h₀ L hp [(L + 1 + 1, oA), (L + 1, oB)]) (cA : oA.data = .cell none) (cB : oB.data = .cell none) (hL : h₀.IsList ax vs.toArray) (hI : IntsAre vs is) (hn : ¬((63 : Nat) : Int) < (is.length : Int))
    (k : ∀ (h' : Heap) (tk : Nat) (m' : Str → Option Value), Fr h₀ L h' m' → Q (.ret (.bool true)) { s with heap := h', toks := tk }) :
    wpR (model PySem.Challenge.rw_pe0048_02.row.prog w) (callerA.deeper (envOfC law2_d.name law2_d.scope L fa cd)) (execs law2_d.body (envOfC law2_d.name law2_d.scope L fa cd)) Q (fun _ _ => False) { s with heap := hp, toks := tk0 } := by
  refine law2_stage1 w mean mg mb h₀ L fa ax cd vs is { s with heap := hp, toks := tk0 } Q _ _ oA oB m K0 X T F N hL hI hn fun n0 n1 ta tb h1 tk1 htk F1 N1 => ?_
  obtain ⟨hA, la⟩ := name_nc n0
  obtain ⟨hB, lb⟩ := name_nc n1
  generalize nameOf2 n0 = a at *
  generalize nameOf2 n1 = b at *
  have lf := dq_length a
  have lg := dq_length b
  have lr := rev_length (dq b)
  refine law2_stage2 w mean mg mb h₀ L fa cd a b ta tb h1 tk1 s Q _ _ oA oB _ htk (by omega) (by omega) K0 X T F1 N1 fun t1 t2 h2 tk2 htk2 F2 N2 => ?_
  refine law2_stage3 w mean mg mb h₀ L fa cd (dq a) (rev (dq b)) t1 t2 h2 tk2 s Q oB oA _ htk2 (by omega) (by omega) K0 X T F2 N2 cB cA fun tx oR h3 tk3 cR F3 N3 => ?_
  have hRl := reply_len la lb
  have hRs := reply_small hA hB
  have hRd := heard_all la lb hA hB
  generalize replyOf (dq a) (rev (dq b)) = R at *
  refine law2_stage4 w mean mg mb h₀ L fa ax cd vs is _ _ _ _ h3 tk3 s Q oR oA _ K0 X T hL hI hn F3 N3 fun mk tm tp h4 tk4 hmk F4 N4 => ?_
  have hP0 : 0 ≤ (is.take 2).sum.fmod 65536 := Int.fmod_nonneg_of_pos _ (by decide)
  have hP1 : (is.take 2).sum.fmod 65536 < 65536 := Int.fmod_lt_of_pos _ (by decide)
  generalize (is.take 2).sum.fmod 65536 = P at *
  obtain ⟨c, n, hmc, hc, hfl, hfd, hfn⟩ := fig_facts hmk hP0 hP1
  have hml : mk.length ≤ 1 := by rw [hmc]; exact Nat.le_refl 1
  have hm3 : (Txt.mul mk 3).length = 3 := by
    have := congrArg List.length (mul_one_list c 3)
    rw [hmc]
    rw [Array.length_toList, List.length_replicate] at this
    exact this
  refine law2_stage5 w mean mg mb h₀ L fa cd mk P tm tp h4 tk4 s Q oR oA _ hP0 hP1 hml K0 X T F4 N4 fun tf h5 tk5 F5 N5 => ?_
  generalize figOf mk P = fg at *
  refine law2_stage6 w mean mg mb h₀ L fa cd mk fg tm tf h5 tk5 s Q oR oA _ hml (by omega) hm3 K0 X T F5 N5 cA fun to oO h6 tk6 cO F6 N6 => ?_
  rw [hmc] at cO
  obtain ⟨hOl, hOs, hOd⟩ := port_all hc hfl hfd hfn
  generalize otherOf ⟨#[c]⟩ fg = O at *
  refine law2_stage7 w mean mg mb h₀ L fa cd h6 tk6 s Q oR oO _ K0 X T F6 N6 fun Dw ws h7 tk7 hws F7 N7 _ => ?_
  refine law2_stage8 w mean mg mb h₀ L fa Dw cd ws R tx h7 tk7 s Q oR oO _ hRl hws K0 X T F7 N7 cR fun Dd ds nwd h8 tk8 hD F8 N8 => ?_
  have F8b := fr_see (x := Str.ofString "one") (fr_see (x := Str.ofString "two") F8 (by rfl)) (by rfl)
  refine law2_stage9 w mean mg mb h₀ L fa Dw Dd cd ws ds R a b tx _ _ (datOf R a b) nwd h8 tk8 s Q oR oO _ hRl hRs hws hRd (eqv_of (congrArg PyData.list (dat_eq R a b)) (dat_shaped hRs hRl (nc_small hA) (nc_small hB))) (dat_shaped hRs hRl (nc_small hA) (nc_small hB))
    (by rw [← dat_eq]; exact dat_shaped hRs hRl (nc_small hA) (nc_small hB)) K0 X T F8b N8 cR hD fun h9 tk9 F9 N9 => ?_
  refine law2_stage10 w mean mg mb h₀ L fa cd h9 tk9 s Q oR oO _ K0 X T F9 N9 fun Dv us h10 tk10 hus F10 N10 _ => ?_
  refine law2_stage11 w mean mg mb h₀ L fa Dv cd us O to n (portDat O n) h10 tk10 s Q oR oO _ hOl hOs hus hOd K0 X T F10 N10 cO fun Dt ts nwt h11 tk11 hT F11 N11 => ?_
  have F11b := fr_see (x := Str.ofString "figures") F11 (by rfl)
  exact law2_stage12 w mean mg mb h₀ L fa Dv Dt cd us ts O fg to _ n (portDat O n) nwt h11 tk11 s Q oR oO _ hOl hus hfn (by omega) (eqv_of (congrArg PyData.list (port_eq O n)) (port_shaped hOs hOl)) (port_shaped hOs hOl) (by rw [← port_eq]; exact port_shaped hOs hOl) K0 X T F11b N11 cO hT
    fun h12 tk12 F12 => k h12 tk12 _ F12
theorem main : PySem.Challenge.rw_pe0048_02.Holds := by
  refine hd2 ?_
  k_fill
  intro w s₀ s₁ mg mb G Y fa o pm cd doc dV kV ho hd hcd hD hmg hg args vals as hpre hlay hrd hwl hlo
  have KX := kIn_of Y
  refine Ground.open G ?_
  intro T B D TE TW
  clear hmg
  wrow_args hpre hlay hrd hwl hlo
  refine wpR_call ?_
  have K0 := below_caller s₁.heap
  have he := Dflts.none hD rfl; subst he
  refine call_cellsR (by decide) ho hd (Top.nolimit T) hcd (BindsTo.of_eq rfl) rfl (by decide +kernel) fun h₁ tk cells F N Y9 => ?_
  k_cells Y9
  have F0 := fr_see (x := Str.ofString "script") F (by rfl)
  refine law2_body w _ mg mb s₁.heap s₁.heap.objs.size fa _ cd _ _ h₁ tk s₁ _ _ _ _ K0 KX T F0 N ?_ ?_ (by assumption) (by assumption) (by assumption) fun h' tk m' F' => ?_
  · assumption
  · assumption
  refine GoodW.toG ?_
  refine goodW_bool F' hg (raisesW_false ?_) ?_
  · wrow_none_raised
  · wrow_post
end Mine
end
theorem PySem.Challenge.cw_pe0048_02_holds : PySem.Challenge.rw_pe0048_02.Holds := by
  exact Mine.main

import PyProof.Rows.All
import Wide.All
import OpenK.AllK
import Wide.FinOn
import PySem.Challenge.RW_pe0048_01
set_option Elab.async false
set_option linter.unusedVariables false
theorem Mine.off_RLayer : True := by
  w_top off
  trivial
section
open PySem PySem.W PyProof.Rows PySem.Calls
set_option Elab.async false
set_option maxRecDepth 100000
set_option maxHeartbeats 8000000
namespace Mine

/-- a code that may hold an object's buffer open while others run above it -/
def holds : Code → Bool
  | .builtin id _ => (["bytearray.__contains__", "bytearray.__mod__", "bytearray.__rmod__", "_struct.pack_into.held", "bytearray.find.held"] ++ Builtin.Bytes.decodersThatHold).contains id
  | _ => false
def Clean (l : List (Code × Pos)) : Prop := ∀ x ∈ l, holds x.1 = false

def wpR {α : Type} (M : Model) (A : Around) (t : Sem α) (Q : α → Shared → Prop) (E : Value → Shared → Prop) (s : Shared) : Prop :=
  ∀ Γ p, Γ.In A → holds Γ.code = false → Clean Γ.below → Sem.wp M Γ t (fun a _ s' => Q a s') (fun e _ s' => E e s') p s
def codeR (M : Model) (A : Around) (c : Code) (R : Result → Shared → Prop) (s : Shared) : Prop :=
  ∀ Γ p, Γ.code = c → Γ.Below A → Clean Γ.below → wpCode M Γ R p s

section
variable {α β : Type} {M : Model} {A : Around} {E : Value → Shared → Prop} {s : Shared}
theorem wpR_of_any {t : Sem α} {Q : α → Shared → Prop} (h : wpAny M A t Q E s) : wpR M A t Q E s := fun Γ p hΓ _ _ => h Γ p hΓ
theorem codeR_of_any {c : Code} {R : Result → Shared → Prop} (h : codeAny M A c R s) : codeR M A c R s := fun Γ p hc hΓ _ => h Γ p hc hΓ
theorem wpR_pure {a : α} {Q : α → Shared → Prop} (h : Q a s) : wpR M A (pure a) Q E s := fun _ _ _ _ _ => h
theorem wpR_mono {t : Sem α} {Q Q' : α → Shared → Prop} {E' : Value → Shared → Prop} (h : wpR M A t Q E s)
    (hQ : ∀ a s, Q a s → Q' a s) (hE : ∀ e s, E e s → E' e s) : wpR M A t Q' E' s :=
  fun Γ p hΓ h1 h2 => Sem.wp_mono M Γ t (fun a _ s => hQ a s) (fun e _ s => hE e s) p s (h Γ p hΓ h1 h2)
theorem wpR_bind {m : Sem α} {f : α → Sem β} {Q : β → Shared → Prop} (h : wpR M A m (fun a s' => wpR M A (f a) Q E s') E s) :
    wpR M A (m >>= f) Q E s := fun Γ p hΓ h1 h2 => by
  rw [Sem.wp_bind']
  exact Sem.wp_mono M Γ m (fun a p' s' h' => h' Γ p' hΓ h1 h2) (fun _ _ _ h' => h') p s (h Γ p hΓ h1 h2)
/-- the first part by the library's logic, the rest by this one -/
theorem wpR_bindA {m : Sem α} {f : α → Sem β} {Q : β → Shared → Prop} (h : wpAny M A m (fun a s' => wpR M A (f a) Q E s') E s) :
    wpR M A (m >>= f) Q E s := wpR_bind (wpR_of_any h)
theorem wpR_map {m : Sem α} {f : α → β} {Q : β → Shared → Prop} (h : wpR M A m (fun a s' => Q (f a) s') E s) :
    wpR M A (f <$> m) Q E s := fun Γ p hΓ h1 h2 => by rw [Sem.wp_map]; exact h Γ p hΓ h1 h2
theorem wpR_holding {vs : List Value} {m : Sem α} {Q : α → Shared → Prop} (h : wpR M A m Q E s) : wpR M A (holding vs m) Q E s :=
  fun Γ p hΓ h1 h2 => by rw [Sem.wp_holding]; exact h Γ p hΓ h1 h2
theorem wpR_keep {vs : List Value} {m : Sem α} {Q : α → Shared → Prop} (h : wpR M A m Q E s) : wpR M A (m.keep vs) Q E s :=
  fun Γ p hΓ h1 h2 => by rw [Sem.wp_keep]; exact h Γ p hΓ h1 h2
theorem wpR_onRaise {m : Sem α} {k : Value → Sem Unit} {Q : α → Shared → Prop}
    (h : wpR M A m Q (fun e s' => wpR M A (k e) (fun _ s'' => E e s'') E s') s) : wpR M A (m.onRaise k) Q E s := fun Γ p hΓ h1 h2 => by
  rw [Sem.wp_onRaise]
  exact Sem.wp_mono M Γ m (fun _ _ _ h' => h') (fun e p' s' h' => h' Γ p' hΓ h1 h2) p s (h Γ p hΓ h1 h2)
theorem wpR_attempt {m : Sem α} {Q : Except Value α → Shared → Prop} (h : wpR M A m (fun a => Q (.ok a)) (fun e => Q (.error e)) s) :
    wpR M A m.attempt Q E s := fun Γ p hΓ h1 h2 => by rw [Sem.wp_attempt]; exact h Γ p hΓ h1 h2
theorem wpR_standAt {pos : Pos} {Q : Unit → Shared → Prop} (h : Q () s) : wpR M A (standAt pos) Q E s := fun _ _ _ _ _ => h
theorem wpR_run {c : Code} {Q : Flow → Shared → Prop} (hc : codeR M A c (fun r s' => match r with | .ok f => Q f s' | .error e => E e s') s) :
    wpR M A (run c) Q E s :=
  fun Γ p hΓ h1 h2 => by
    rw [Sem.wp_run]
    refine hc _ p rfl (hΓ.enter c none p (by intro x; cases x)) ?_
    intro x hx
    rcases List.mem_cons.mp hx with rfl | hx
    · exact h1
    · exact h2 x hx
theorem wpR_call {f : Value} {pos : List Value} {kw : List (Str × Value)} {Q : Value → Shared → Prop}
    (hc : codeR M A (.call f ⟨pos, kw⟩) (fun r s' => match r with | .ok (.ret v) => Q v s' | .ok _ => False | .error e => E e s') s) :
    wpR M A (call f pos kw) Q E s := fun Γ p hΓ h1 h2 => by
  unfold call
  rw [Sem.wp_runValue]
  refine hc _ p rfl (hΓ.enter _ none p (by intro x; cases x)) ?_
  intro x hx
  rcases List.mem_cons.mp hx with rfl | hx
  · exact h1
  · exact h2 x hx
theorem codeR_mono {c : Code} {R R' : Result → Shared → Prop} (h : codeR M A c R s) (hR : ∀ r s, R r s → R' r s) : codeR M A c R' s :=
  fun Γ p hc hΓ hC => wpCode_mono hR (h Γ p hc hΓ hC)
theorem codeR_of_tree {c : Code} {R : Result → Shared → Prop} (hn : holds c = false)
    (h : wpR M (A.under c) (M.den c) (fun fin s' => match fin with | .done f => R (.ok f) s' | .again c' => c'.quiet = true ∧ codeR M A c' R s')
      (fun e s' => R (.error e) s') s) : codeR M A c R s := fun Γ p hc hΓ hC => by
  rw [wpCode_iff_wp, hc]
  refine Sem.wp_mono M Γ _ (fun fin p' s' h' => ?_) (fun _ _ _ h' => h') p s (h Γ p (hc ▸ hΓ.in) (hc ▸ hn) hC)
  cases fin with
  | done f => exact h'
  | again c' => exact ⟨h'.1, h'.2 (Γ.goto c') p' rfl (hΓ.goto c') hC⟩
end

section
variable {prog : Program} {w : World} {A : Around} {s : Shared} {R : Result → Shared → Prop}
theorem codeR_builtin {id : String} {args : Args} {b : Builtin} (hn : holds (.builtin id args) = false) (hb : entryFor table id = some b)
    (h : wpR (model prog w) (A.under (.builtin id args)) (b args)
      (fun fin s' => match fin with | .done f => R (.ok f) s' | .again c' => c'.quiet = true ∧ codeR (model prog w) A c' R s') (fun e s' => R (.error e) s') s) :
    codeR (model prog w) A (.builtin id args) R s := by
  refine codeR_of_tree hn ?_
  show wpR _ _ (match entryFor table id with | some b => b args | none => unsupported ((withoutEnding? id "#data").getD id)) _ _ s
  rw [hb]; exact h
theorem codeR_func {body : List Stmt} {env : Env}
    (h : wpR (model prog w) (A.deeper env) (execs body env) (fun f s' => R (.ok (.ret (match f with | .ret v => v | _ => .none))) s')
      (fun e s' => wpR (model prog w) (A.deeper env) (leaving env e) (fun _ s'' => R (.error e) s'') (fun e' s'' => R (.error e') s'') s') s) :
    codeR (model prog w) A (.func body env) R s := by
  refine codeR_of_tree rfl ?_
  show wpR _ (A.deeper env) (do point; match ← (execs body env).onRaise (leaving env) with | .ret v => ret v | _ => ret .none) _ _ s
  refine wpR_bindA (wpAny_point (wpR_bind (wpR_onRaise (wpR_mono h (fun f s' h' => ?_) fun _ _ h' => h'))))
  cases f <;> exact wpR_pure h'
theorem codeR_call_function {a : Addr} {args : Args} {o : Obj} {fd : FuncData} {body : List Stmt} (hroom : A.depth < recursionLimit)
    (ho : s.heap.get? a = some o) (hd' : o.data = .func fd) (hco : fd.scope.isCoroutine = false) (hgen : fd.scope.isGenerator = false) (hbody : fd.body = .stmts body) (hcd : s.heap.CodeRec fd.code fd.qualname)
    (h : wpAny (model prog w) A.in1 (bindArgs fd args) (fun binds s₁ =>
      wpAny (model prog w) A.in1 (newFunctionEnv fd.scope fd.globals fd.closure binds (fd.qualname ++ ".<locals>.") (some a) fd.code none fd.builtins)
        (fun env s₂ => s₂.heap.NoLimit ∧ codeR (model prog w) A (.func body env) R s₂) (fun e s' => R (.error e) s') s₁) (fun e s' => R (.error e) s') s) :
    codeR (model prog w) A (.call (.ref a) args) R s := by
  refine codeR_of_tree rfl ?_
  refine wpR_of_any ?_
  show wpAny _ A.in1 (callAny (.ref a) args) _ _ s
  simp only [callAny]
  refine wpAny_bind (wpAny_load ho ?_)
  obtain ⟨c, oc, vs, tq, hc, hoc, hdc, hq⟩ := hcd
  simp only [hd', callFunction, hco, hgen, hbody, hc]
  rw [hc] at h
  refine wpAny_bind (m := field (.ref c) 1) (wpAny_field hoc hdc hq (wpAny_bind (wpAny_pure ?_)))
  exact wpAny_bind (wpAny_mono h (fun binds s₁ h₁ => wpAny_bind (wpAny_mono h₁ (fun env s₂ h₂ => wpAny_bind (wpAny_enterFrame h₂.1 hroom
    (wpAny_pure (And.intro rfl h₂.2)))) fun _ _ h' => h')) fun _ _ h' => h')
theorem codeR_call_def {a : Addr} {o : Obj} {fd : FuncData} {body : List Stmt} {args : Args} {binds : List (Str × Value)}
    (hroom : A.depth < recursionLimit) (ho : s.heap.get? a = some o) (hdata : o.data = .func fd) (hlim : s.heap.NoLimit) (hcd : s.heap.CodeRec fd.code fd.qualname)
    (hbody : fd.body = .stmts body) (hbind : BindsTo s fd args binds)
    (hcell : ∀ x ∈ fd.scope.names, x.2 ≠ .cell) (hloc : ∀ x ∈ binds, fd.scope.names.lookup x.1 = some .local)
    (h : ∀ h₀, h₀.Ns s.heap.objs.size (fun x => binds.reverse.lookup x) → (∀ b o, s.heap.get? b = some o → h₀.get? b = some o) →
      wpR (model prog w) (A.deeper (callEnv fd s.heap.objs.size a)) (execs body (callEnv fd s.heap.objs.size a)) (fun f s' => R (.ok (.ret (match f with | .ret v => v | _ => .none))) s')
        (fun e s' => wpR (model prog w) (A.deeper (callEnv fd s.heap.objs.size a)) (leaving (callEnv fd s.heap.objs.size a) e) (fun _ s'' => R (.error e) s'') (fun e' s'' => R (.error e') s'') s')
        { s with heap := h₀, toks := s.toks + binds.length })
    (hco : fd.scope.isCoroutine = false) (hgen : fd.scope.isGenerator = false) (hk : fd.scope.kind = .function) :
    codeR (model prog w) A (.call (.ref a) args) R s := by
  refine codeR_call_function hroom ho hdata hco hgen hbody hcd (hbind _ _ _ _ ?_)
  refine wpAny_newFunctionEnv hcell hloc (fun h₀ hns₀ hsb₀ => ⟨hlim.fresh _ hsb₀, codeR_func (h h₀ hns₀ fun b o e => ?_)⟩) hk
  exact hsb₀.extBut b o (Nat.ne_of_lt (Heap.lt_size e)) (Heap.get?_push_of_some _ e)
end
end Mine
end
theorem Mine.off_RHead : True := by
  w_top off
  trivial
section
open PySem PySem.W PyProof.Rows PySem.Calls
set_option Elab.async false
set_option maxRecDepth 100000
set_option maxHeartbeats 8000000
namespace Mine
theorem caller_clean : holds (⟨.builtin "claim.caller" {}, none, none, [], none⟩ : Ctx).code = false := by decide +kernel
theorem ends_R {prog : Program} {w : World} {t : Sem Fin} {s : Shared} {R : Result → Shared → Prop} (hreg : s.asleep)
    (h : wpR (model prog w) callerA t (fun fin s' => ∃ f, fin = .done f ∧ (R (.ok f) s' ∧ leftWithCleanup s'.gens = false)) (fun e s' => R (.error e) s' ∧ leftWithCleanup s'.gens = false) s) :
    ∃ n r s' s'', runN (denote table) prog w n s ⟨t, .builtin "claim.caller" {}, default, []⟩ = .halted (outcomeOf r) s' ∧
      schedN (denote table) prog w n (.single s ⟨t, .builtin "claim.caller" {}, default, []⟩) = .halted (outcomeOf r) s' ∧ s'.forget = s''.forget ∧ R r s'' := by
  have h0 := h ⟨.builtin "claim.caller" {}, none, none, [], none⟩ default caller_in caller_clean (fun _ hx => nomatch hx)
  obtain ⟨n, r, s₁, s₂, hs, hn, hfo, hR⟩ := wp_halts_full (M := model prog w) (R := R) hreg
    (Sem.wp_mono _ _ _ (fun fin p' s' hq => by obtain ⟨f, rfl, hq⟩ := hq; exact hq) (fun _ _ _ hq => hq) _ _ h0)
  exact ⟨n, r, s₂, s₁, hn, hs, hfo, hR⟩

theorem callFrom_R {c : ClaimW} {tree : List Value → Sem Fin} {w : World} {s : Shared} {free : Addr → Prop} {gens : Prop} {kept : Heap → Prop} (hz : s.asleep) (hgens : s.gens = #[])
    (hspec : ∀ args, c.pre args = true → WData.layableAll args = true →
      ∀ ord : List DictEntry → List DictEntry, (∀ l, (ord l).Perm l) →
      ∃ vs s₁, layAllW c.records (classAt s.heap) w.params ord args s = some (vs, s₁) ∧
        wpR (model c.prog w) callerA (tree vs) (fun fin s' => ∃ f, fin = .done f ∧ (c.Ends s args vs s₁ (.ok f) s' ∧ s'.os = s.os ∧ AllBare s'.gens ∧ kept s'.heap))
          (fun e s' => c.Ends s args vs s₁ (.error e) s' ∧ s'.os = s.os ∧ AllBare s'.gens ∧ kept s'.heap) s₁) :
    c.CallFrom (fun vs => ⟨tree vs, .builtin "claim.caller" {}, default, []⟩) w free gens kept s := by
  intro args hpre hlay ord hord
  obtain ⟨vs, s₁, hlaid, hcode⟩ := hspec args hpre hlay ord hord
  have hal := layAllW_rest _ _ _ hlaid
  obtain ⟨k, r, s', s'', hrun, hsched, hfo, hcase, hos, hkp⟩ := ends_R (prog := c.prog) (w := w) (t := tree vs) (s := s₁)
    (R := fun r s' => c.Ends s args vs s₁ r s' ∧ s'.os = s.os ∧ kept s'.heap) (Shared.asleep_of_life hal.2.2.2 hz)
    (wpR_mono hcode (fun fin s' ⟨f, e, h1, h2, h3, h4⟩ => ⟨f, e, ⟨h1, h2, h4⟩, leftWithCleanup_false_of_bare h3⟩)
      (fun e s' ⟨h1, h2, h3, h4⟩ => ⟨⟨h1, h2, h4⟩, leftWithCleanup_false_of_bare h3⟩))
  obtain ⟨eh, _, _, eo, _⟩ := Shared.forget_eq hfo
  have hcase := hcase.congr eh
  have hkp : kept s'.heap := by rw [eh]; exact hkp
  rw [← eo] at hos
  have hlife : s'.heap.life = s.heap.life := (runN_life _ _ _ hrun).trans hal.2.2.2
  refine ⟨vs, s₁, hlaid, k, _, s', hsched, ?_, (fun _ i x hx => by rw [hgens] at hx; simp at hx), hkp, by rw [hlife], Shared.rest_eq hos⟩
  rcases hcase with ⟨v, rfl, d1, d2, d3, d4, d5⟩ | ⟨e, ob, cls, rfl, d1, d2, d3, d4, d5⟩
  · exact .inl ⟨v, rfl, d1, d2, d3, fun b o y _ => d4 b o y, d5⟩
  · exact .inr ⟨e, ob, cls, rfl, d1, d2, d3, d4, fun b o y _ => d5 b o y⟩

/-- what is left to show: the law's call, from a clean caller alone -/
abbrev WalkR (q : Program) (loose : List Str) (XP : (Str → Option Value) → Heap → Prop) (YP : World → Heap → Prop) (r : RowW) (d : DefRec) (kwd : List (Str × Expr)) : Prop :=
  ∀ (w : World) (s₀ s₁ : Shared) (mg mb : Str → Option Value), Ground q loose r.records XP w s₀ mg mb s₁.heap → YP w s₁.heap → ∀ (a : Addr) (o : Obj) (pm cd doc dV kV : Value), s₁.heap.get? a = some o →
    o.data = .func { docDef d.name d.params d.body d.scope pm cd doc with defaults := dV, kwdefaults := kV } → s₁.heap.CodeRec cd d.name → Dflts mg s₁.heap d.params kwd dV kV → mg d.name = some (.ref a) → s₁.gens = #[] →
    ∀ (args : List WData) (vals : List Value) (as : List Addr), r.claim.pre args = true → WData.layableAll args = true → ReadsAllW r.records (classAt s₀.heap) s₁.heap vals args as → WellAll w.params s₁.heap vals args → (∀ a ∈ as, (a == sysModules) = false) →
      wpR (model r.prog w) callerA (PySem.call (.ref a) vals) (fun v s' => GoodWG r.claim (classAt s₀.heap) (ExcName.means s₀.heap) args s₁ (.ok (.ret v)) s')
        (fun e s' => GoodWG r.claim (classAt s₀.heap) (ExcName.means s₀.heap) args s₁ (.error e) s') s₁

theorem open_R {r : RowW} {q : Program} {loose defs kps : List Str} {writes : Bool} {Xt : Shared → Bool} {XP : (Str → Option Value) → Heap → Prop} {α : Type} {Yf : Shared → α} {Ya : World → α} {YP : World → Heap → Prop} {N : Nat}
    (left : LeftO r.prog q loose Xt Yf Ya N) (hY : ∀ w s, Yf s = Ya w → YP w s.heap) (hYk : ∀ w h h', YP w h → (∀ b o, h.get? b = some o → h'.get? b = some o) → YP w h') (hX : ∀ s, Xt s = true → XP (s.heap.nsMap mainGlobals) s.heap) (hXk : ∀ mg h h', XP mg h → (∀ b o, h.get? b = some o → h'.get? b = some o) → XP mg h')
    (hRf : ∀ s, Xt s = true → RecFacts r.records s.heap) (hwr : (!writes || r.records.isEmpty) = true) (ok : (chainsOk q && opensWell r.prog && (frees r && r.within.isEmpty)) = true) (hb : r.prog.bare) (hw : r.promised)
    (pin : ∀ w s, s.heap.isNs mainGlobals = true → Ground q loose [] XP w s (s.heap.nsMap mainGlobals) (s.heap.nsMap builtinsNs) s.heap → ∀ n ∈ defs, isTheDefsW r.prog s.heap n)
    (call : ∀ (w : World) (s₀ s₁ : Shared) (mg mb : Str → Option Value), Ground q loose r.records XP w s₀ mg mb s₁.heap → YP w s₁.heap → ∀ (args : List WData) (vs : List Value) (as : List Addr),
      r.claim.pre args = true → WData.layableAll args = true → Laid r.records w s₀ s₁ args vs as → sysModules < s₀.heap.objs.size → ∃ f, mg r.name = some f ∧
        wpR (model r.prog w) callerA (PySem.call f vs) (fun v s' => GoodWG r.claim (classAt s₀.heap) (ExcName.means s₀.heap) args s₁ (.ok (.ret v)) s')
          (fun e s' => GoodWG r.claim (classAt s₀.heap) (ExcName.means s₀.heap) args s₁ (.error e) s') s₁) :
    r.claim.HoldsOpenBy (fun vs => ⟨do match ← nsGet mainNs r.name with
      | some f => do ret (← PySem.call f vs)
      | none => unsupported "claim.caller:no-such-global", .builtin "claim.caller" {}, default, []⟩) defs kps writes := by
  obtain ⟨ok, k5⟩ := Bool.and_eq_true_iff.mp ok
  obtain ⟨hch, o1⟩ := Bool.and_eq_true_iff.mp ok
  obtain ⟨k5, k6⟩ := Bool.and_eq_true_iff.mp k5
  obtain ⟨hsame, hu, ha, hap, hm⟩ := frees_parts k5
  refine ⟨⟨hb, o1, by show r.makers.map _ = []; rw [hm]; rfl⟩, hw.witness, fun w => ⟨(left.behind hX hch w).1, fun s' hs' => ?_⟩⟩
  obtain ⟨s₀, hf, hg0, s, hT, hz, hgens, hg, G00, y⟩ := (left.behind (XP := fun mg h => XP mg h ∧ RecFacts r.records h) (fun s hs => ⟨hX s hs, hRf s hs⟩) hch w).2 s' hs'
  have G0 : Ground q loose [] XP w s (s.heap.nsMap mainGlobals) (s.heap.nsMap builtinsNs) s.heap := ⟨G00.T, G00.B, G00.D, G00.TE, G00.TD, G00.W, G00.X.1, G00.cls, G00.has, G00.apart, G00.once, G00.K⟩
  have RF := G00.X.2
  have hT' := hT
  refine ⟨s₀, hf, hg0, s, hT, pin w s hg G0, RF.1, RF.2.1, ?_⟩
  have hgens : s.gens = #[] := Array.eq_empty_of_size_eq_zero (beq_iff_eq.mp hgens)
  have G : Ground q loose r.records XP w s _ _ s.heap := RF.ground G0
  refine callFrom_R (c := r.claim) hz hgens fun args hpre hlay ord hord => ?_
  obtain ⟨⟨vs, s₁⟩, hlaid⟩ := Option.isSome_iff_exists.mp (layAllW_isSome (P := w.params) (ord := ord) G.has args r.args s (pre_splitW hpre).1)
  have keeps := layAllW_keeps _ _ _ hlaid
  have hal := layAllW_rest _ _ _ hlaid
  obtain ⟨as, hrd, hin, hold⟩ := reads_layAllW hord _ _ _ hlaid hlay s₁.heap (fun _ _ e => e)
  have L : Laid r.records w s s₁ args vs as := ⟨⟨ord, hord, hlaid⟩, hrd, hin, hold, keeps, hal.1.trans hgens, hal.2.2.1⟩
  have G₁ := G.keeps hXk keeps
  obtain ⟨f, hf, h⟩ := call w s s₁ _ _ G₁ (hYk _ _ _ (hY w s y) keeps) args vs as hpre hlay L G.low
  have hi := ident_freeW hu ha hap
  have hwi : r.claim.within = [] := List.isEmpty_iff.mp k6
  refine ⟨vs, s₁, hlaid, wpR_bindA (wpAny_nsGet G₁.T.g ?_)⟩
  rw [hf]
  refine wpR_bind (wpR_mono h (fun v s' g => wpR_pure ⟨_, rfl, have z := g.laid (c := r.claim) hsame hwi hi L; ⟨z.1, z.2.1, z.2.2, fun q => ⟨namesKept_of hT' hg kps keeps g.2.1.old, noTable hwr q⟩⟩⟩) fun e s' g => have z := g.laid (c := r.claim) hsame hwi hi L; ⟨z.1, z.2.1, z.2.2, fun q => ⟨namesKept_of hT' hg kps keeps g.2.1.old, noTable hwr q⟩⟩)

/-- the library's head asks for its last lemma by this name: here it is met by the clean callers' one -/
theorem PySem.W.holds_open {r : OpenRow} {q : Program} {loose : List Str} {Xt : Shared → Bool} {XP : (Str → Option Value) → Heap → Prop} {α : Type} {Yf : Shared → α} {Ya : World → α} {YP : World → Heap → Prop} {d : DefRec} {kwd : List (Str × Expr)} {N : Nat}
    (left : LeftO r.prog q loose Xt Yf Ya N) (hY : ∀ w s, Yf s = Ya w → YP w s.heap) (hYk : ∀ w h h', YP w h → (∀ b o, h.get? b = some o → h'.get? b = some o) → YP w h')
    (hX : ∀ s, Xt s = true → XP (s.heap.nsMap mainGlobals) s.heap) (hXk : ∀ mg h h', XP mg h → (∀ b o, h.get? b = some o → h'.get? b = some o) → XP mg h')
    (hdef : defOf q r.name = some (d, kwd)) (hp : r.prog.theDef r.name = some (d.params, d.body, d.scope)) (hk : kwWritten? d.params.kwonlyargs d.params.kw_defaults = some kwd) (hRf : ∀ s, Xt s = true → RecFacts r.records s.heap) (hwr : (!r.writes || r.records.isEmpty) = true)
    (k1 : r.wellSaid = true) (ok : (chainsOk q && opensWell r.prog && (frees r.toRowW && r.within.isEmpty)) = true) (hb : r.prog.bare) (hw : r.toRowW.promised)
    (call : WalkR q loose XP YP r.toRowW d kwd) : r.Holds := by
  refine ⟨k1, hw, open_R (r := r.toRowW) left hY hYk hX hXk hRf hwr ok hb hw (fun w s hg G n hn => ?_) fun w s₀ s₁ mg mb G Y args vs as hpre hlay L low => ?_⟩
  · obtain rfl : n = r.name := by split at hn <;> simp_all
    exact pinned_of_view hg G hdef hp hk
  · obtain ⟨a, o, pm, cd, doc, dV, kV, h1, h2, h3, h4, h5⟩ := G.fn hdef
    exact ⟨.ref a, h1, call w s₀ s₁ mg mb G Y a o pm cd doc dV kV h2 h3 h4 h5 (defOf_name hdef ▸ h1) L.gens args vs as hpre hlay L.reads L.well (L.low low)⟩
end Mine
end
theorem Mine.off_HR1 : True := by
  w_top off
  trivial
section
open PySem PySem.W PyProof.Rows
set_option Elab.async false
namespace Mine
set_option maxRecDepth 100000 in
set_option maxHeartbeats 8000000 in
open_top hd1 for PySem.Challenge.rw_pe0048_01
end Mine
end
theorem Mine.off_BaNew : True := by
  w_top off
  trivial
section
open PySem PySem.W PyProof.Rows PySem.Calls
set_option Elab.async false
set_option maxRecDepth 100000
set_option maxHeartbeats 8000000
namespace Mine
theorem ba_mro : mroOf (.type "bytearray") = pure [.type "bytearray", .type "object"] := by rw [mroOf_type]; kernel_rfl
theorem ba_lookup_new : typeLookup (.type "bytearray") "__new__" = pure (some (.builtin "bytearray.__new__")) := by rw [typeLookup_type, builtinLookup_eq_fast]; kernel_rfl
theorem ba_slot_init : Slot "bytearray" "__init__" "bytearray.__init__" :=
  .of (owner := "bytearray") (n := "__init__") (by rw [typeLookup_type, builtinLookup_eq_fast]; kernel_rfl) (by decide +kernel) (by decide +kernel) (by decide +kernel)
    (by first | exact .inl (by decide +kernel) | exact .inr (by decide +kernel)) (by rw [isSubtype_type]; kernel_rfl)
theorem ba_called : TypeCalled "bytearray" "bytearray.__new__" "bytearray.__init__" :=
  ⟨by decide +kernel, by decide +kernel, ⟨_, _, ba_mro⟩, madeBy_type ba_mro ba_lookup_new (by decide +kernel), by decide +kernel, by rw [isSubtype_type]; kernel_rfl, ba_slot_init⟩
theorem ba_typeCall (a : Value) : checkTypeCall "bytearray" ⟨[a], []⟩ = pure () := by kernel_rfl
theorem ba_newCall (a : Value) : checkBuiltinCall "bytearray.__new__" ⟨[.type "bytearray", a], []⟩ = pure () := by kernel_rfl
theorem ba_args (a b : Value) : argsOk "bytearray.__init__" ⟨[a, b], []⟩ := by unfold argsOk; kernel_rfl
theorem ba_plain : plainId "bytearray.__new__" = true := by decide +kernel
theorem ba_plain_init : plainId "bytearray.__init__" = true := by decide +kernel
theorem ba_entry_init : entryFor table "bytearray.__init__" = some Builtin.«bytearray.__init__» := by first | exact entryFor_of_fast (by kernel_rfl) | exact entryFor_of_tree (by kernel_rfl)
theorem ba_entry_new : entryFor table "bytearray.__new__" = some Builtin.«list.__new__» := entryFor_alias (id' := "list.__new__") (by kernel_rfl) rfl (by decide +kernel) (by kernel_rfl)
set_option maxRecDepth 1000000 in
theorem ba_owner : ("bytearray.__new__".splitOn ".__new__").headD "" = "bytearray" := by simp +decide [String.splitOn, String.splitOnAux]
theorem ba_sub : isSubtype (.type "bytearray") (.type "bytearray") = pure true := by rw [isSubtype_type]; kernel_rfl
section
variable {prog : Program} {w : World} {A : Around} {E : Value → Shared → Prop} {s : Shared}
theorem ba_code_new (a : Value) {Q₁ : Value → Shared → Prop}
    (h : Q₁ (.ref s.heap.objs.size) { s with heap := s.heap.push { cls := .type "bytearray", data := .bytearray #[] } }) :
    codeAny (model prog w) A (.call (.builtin "bytearray.__new__") ⟨[.type "bytearray", a], []⟩) (wants Q₁ E) s := by
  refine codeAny_of_tree ?_
  show wpAny _ A.in1 (do checkBuiltinCall "bytearray.__new__" ⟨[.type "bytearray", a], []⟩; again (.builtin "bytearray.__new__" ⟨[.type "bytearray", a], []⟩)) _ _ s
  refine wpAny_bind (wpAny_of_eq (ba_newCall a) (wpAny_pure ⟨plainId_quiet ba_plain _, codeAny_builtin_stack ba_entry_new rfl fun p st => ?_⟩))
  rw [Around.under_plainId ba_plain _]
  have hsub := ba_sub
  have hown := ba_owner
  obtain ⟨hp, g, d, tk, os⟩ := s
  simp only [hown]
  wp_walk
  exact h
end
end Mine
end
theorem Mine.off_BaInit : True := by
  w_top off
  trivial
section
open PySem PySem.W PyProof.Rows PySem.Calls
set_option Elab.async false
set_option maxRecDepth 100000
set_option maxHeartbeats 8000000
namespace Mine
theorem ba_look_release : typeLookup (.type "bytearray") "__release_buffer__" = pure (some (.builtin "bytearray.__release_buffer__")) := by rw [typeLookup_type, builtinLookup_eq_fast]; kernel_rfl
theorem ba_bind (v : Value) : Builtin.Bytes.bindOptional "bytearray.__init__" "bytearray" ["source", "encoding", "errors"] [v] [] = pure [some v, none, none] := by kernel_rfl
theorem ba_int_index : typeLookup (.type "int") "__index__" = pure (some (.builtin "int.__index__")) := by rw [typeLookup_type, builtinLookup_eq_fast]; kernel_rfl
theorem ba_rel_ends : ("bytearray.__release_buffer__".endsWith ("." ++ "__release_buffer__")) = true := by decide +kernel
theorem ba_rel_drop : ("bytearray.__release_buffer__".dropRight ("__release_buffer__".length + 1)) = "bytearray" := by decide +kernel
section
variable {prog : Program} {w : World} {A : Around} {E : Value → Shared → Prop} {s : Shared}
theorem ba_ownRelease {S : Addr} {M : Model} {Q : Bool → Shared → Prop} (hT : s.TypeIs (.ref S) "bytearray") (h : Q false s) : wpAny M A (Builtin.Bytes.ownRelease (.ref S)) Q E s := by
  unfold Builtin.Bytes.ownRelease Builtin.Bytes.slotIsOwn
  refine wpAny_bind (wpAny_bind (wpAny_specialOf hT ba_look_release ?_))
  dsimp only
  rw [ba_rel_ends, ba_rel_drop]
  refine wpAny_ite_false rfl ?_
  refine wpAny_isInstance hT ba_sub ?_
  exact wpAny_pure h
theorem rIf_false {α : Type} {M : Model} {c : Bool} {a b : Sem α} {Q : α → Shared → Prop} (hc : c = false) (h : wpR M A b Q E s) : wpR M A (if c = true then a else b) Q E s := by
  subst hc
  exact h
theorem aIf_not {α : Type} {M : Model} {c : Prop} [Decidable c] {a b : Sem α} {Q : α → Shared → Prop} (hc : ¬ c) (h : wpAny M A b Q E s) : wpAny M A (if c then a else b) Q E s := by
  rw [if_neg hc]
  exact h
theorem aIf_yes {α : Type} {M : Model} {c : Prop} [Decidable c] {a b : Sem α} {Q : α → Shared → Prop} (hc : c) (h : wpAny M A a Q E s) : wpAny M A (if c then a else b) Q E s := by
  rw [if_pos hc]
  exact h
theorem exported_R {S : Addr} {M : Model} {Q : Bool → Shared → Prop} (h : Q false s) : wpR M A (Builtin.Bytes.exported (.ref S)) Q E s := by
  intro Γ p hΓ h1 h2
  unfold Builtin.Bytes.exported
  show Q (List.any ((Γ.code, p) :: Γ.below) _) s
  rw [show (List.any ((Γ.code, p) :: Γ.below) _) = false from ?_]
  · exact h
  rw [List.any_eq_false]
  intro x hx
  have hc : holds x.1 = false := by
    rcases List.mem_cons.mp hx with rfl | hx
    · exact h1
    · exact h2 x hx
  obtain ⟨c, q⟩ := x
  unfold holds at hc
  split
  case h_7 => exact Bool.false_ne_true
  case h_6 =>
    rename_i heq
    cases heq
    have hd : ∀ id : String, (["bytearray.__contains__", "bytearray.__mod__", "bytearray.__rmod__", "_struct.pack_into.held", "bytearray.find.held"] ++ Builtin.Bytes.decodersThatHold).contains id = false → Builtin.Bytes.decodersThatHold.contains id = false := by
      intro id h
      cases hq : Builtin.Bytes.decodersThatHold.contains id with
      | false => rfl
      | true =>
        have := List.contains_iff_mem.mp hq
        rw [List.contains_iff_mem.mpr (List.mem_append_right _ this)] at h
        cases h
    rw [hd _ hc, Bool.and_false]
    exact Bool.false_ne_true
  all_goals (rename_i heq; cases heq; exact absurd (show (["bytearray.__contains__", "bytearray.__mod__", "bytearray.__rmod__", "_struct.pack_into.held", "bytearray.find.held"] ++ Builtin.Bytes.decodersThatHold).contains _ = false from hc) (by decide +kernel))
theorem ba_init {S : Addr} {n : Int} {u : Tok} {Q : Fin → Shared → Prop} {E : Value → Shared → Prop} (h0 : 0 ≤ n) (hn : n ≤ 1000000) (hS : s.heap.get? S = some { cls := .type "bytearray", data := .bytearray #[] })
    (hQ : ∀ h' k, (∀ b o, b ≠ S → s.heap.get? b = some o → h'.get? b = some o) → h'.get? S = some { cls := .type "bytearray", data := .bytearray (Array.replicate n.toNat 0) } → h'.objs.size = s.heap.objs.size → Q (.done (.ret .none)) { s with heap := h', toks := k }) :
    wpR (model prog w) A (Builtin.«bytearray.__init__» ⟨[.ref S, .int n u], []⟩) Q E s := by
  have hT : s.TypeIs (.ref S) "bytearray" := ⟨_, hS, rfl⟩
  unfold Builtin.«bytearray.__init__»
  refine wpR_bindA (ba_ownRelease hT ?_)
  refine rIf_false rfl ?_
  refine wpR_bindA (wpAny_of_eq (ba_bind _) ?_)
  refine wpR_bindA (wpAny_of_eq (a := ()) rfl ?_)
  refine wpR_bindA (wpAny_of_eq (a := ()) rfl ?_)
  refine wpR_bind (Q := _) ?_
  unfold orM
  refine wpR_bind (exported_R ?_)
  show wpR _ _ (Builtin.Bytes.exportsOf (.ref S) >>= fun n => pure (decide (n > 0))) _ _ _
  refine wpR_of_any ?_
  unfold Builtin.Bytes.exportsOf
  refine wpAny_bind (wpAny_bind (wpAny_load hS ?_))
  refine wpAny_pure (wpAny_pure ?_)
  refine rIf_false rfl ?_
  refine wpR_of_any ?_
  refine wpAny_bind ?_
  show wpAny _ _ (updateBytearray S fun _ => #[]) _ _ _
  unfold updateBytearray
  refine wpAny_bind (wpAny_load hS ?_)
  refine wpAny_bind (wpAny_update hS ?_)
  have hS₁ : (s.heap.update S (Obj.mapBytearray fun _ => #[])).get? S = some { cls := .type "bytearray", data := .bytearray #[] } := Heap.get?_update_self _ hS rfl
  refine wpAny_lookBehind hS₁ rfl ?_
  refine wpAny_bind (wpAny_of_eq (a := (none : Option Str)) rfl ?_)
  refine wpAny_ite_false rfl ?_
  refine wpAny_bind (wpAny_of_eq (a := ()) rfl ?_)
  refine wpAny_bind (wpAny_specialOf (T := "int") (typeIs_int _ _ _) ba_int_index ?_)
  refine wpAny_ite_true rfl ?_
  refine wpAny_bind (wpAny_attempt (wpAny_of_eq (rfl : asIndex (.int n u) = pure n) ?_))
  refine aIf_not (by unfold Builtin.Bytes.fitsIndex; simp only [Bool.not_eq_true, Bool.not_eq_false', Bool.and_eq_true, decide_eq_true_eq]; omega) ?_
  refine aIf_not (by omega) ?_
  refine aIf_not (by rw [beq_iff_eq]; omega) ?_
  refine aIf_not (by unfold Builtin.Bytes.tooLong; rw [decide_eq_true_eq, sizeLine_eq]; omega) ?_
  refine wpAny_bind (wpAny_rule ?_)
  have keep₁ : ∀ b o, b ≠ S → s.heap.get? b = some o → (s.heap.update S (Obj.mapBytearray fun _ => #[])).get? b = some o := fun b o hb e => (Heap.get?_update_other _ _ (Ne.symm hb)).trans e
  by_cases hp : n > 0
  · refine aIf_yes hp ?_
    refine wpAny_bind ?_
    show wpAny _ _ (updateBytearray S fun _ => Array.replicate n.toNat 0) _ _ _
    unfold updateBytearray
    refine wpAny_bind (wpAny_load hS₁ ?_)
    refine wpAny_bind (wpAny_update hS₁ ?_)
    have hS₂ : ((s.heap.update S (Obj.mapBytearray fun _ => #[])).update S (Obj.mapBytearray fun _ => Array.replicate n.toNat 0)).get? S = some { cls := .type "bytearray", data := .bytearray (Array.replicate n.toNat 0) } := Heap.get?_update_self _ hS₁ rfl
    refine wpAny_lookBehind hS₂ ?_ ?_
    · show (if (Array.replicate n.toNat (0 : UInt8)).size > sizeLine then some "bytearray:memory" else none) = none
      rw [if_neg]
      rw [Array.size_replicate, sizeLine_eq]
      omega
    · refine wpAny_pure (hQ _ _ (fun b o hb e => (Heap.get?_update_other _ _ (Ne.symm hb)).trans (keep₁ b o hb e)) hS₂ ?_)
      simp only [Heap.size_after_update]
  · refine aIf_not hp ?_
    have hz : n.toNat = 0 := by omega
    refine wpAny_pure (hQ _ _ keep₁ ?_ ?_)
    · rw [hz]; exact hS₁
    · simp only [Heap.size_after_update]
end
end Mine
end
theorem Mine.off_BaCall : True := by
  w_top off
  trivial
section
open PySem PySem.W PyProof.Rows PySem.Calls
set_option Elab.async false
set_option maxRecDepth 100000
set_option maxHeartbeats 8000000
namespace Mine
section
variable {prog : Program} {w : World} {A : Around} {E : Value → Shared → Prop} {s : Shared}
theorem holds_builtin {id : String} {args : Args} (h : (["bytearray.__contains__", "bytearray.__mod__", "bytearray.__rmod__", "_struct.pack_into.held", "bytearray.find.held"] ++ Builtin.Bytes.decodersThatHold).contains id = false) : holds (.builtin id args) = false := h
theorem ba_call_R {n : Int} {u : Tok} {Q : Value → Shared → Prop} (h0 : 0 ≤ n) (hn : n ≤ 1000000)
    (hQ : ∀ h' k, (∀ b o, s.heap.get? b = some o → h'.get? b = some o) → h'.get? s.heap.objs.size = some { cls := .type "bytearray", data := .bytearray (Array.replicate n.toNat 0) } → h'.objs.size = s.heap.objs.size + 1 → Q (.ref s.heap.objs.size) { s with heap := h', toks := k }) :
    wpR (model prog w) A (call (.type "bytearray") [.int n u]) Q E s := by
  obtain ⟨c, tl, hmro⟩ := ba_called.mro
  have hmade := ba_called.made
  have hsub := ba_called.sub
  have h1 := ba_called.notType
  have h2 := ba_called.canCreate
  refine wpR_call (codeR_of_tree rfl (wpR_of_any ?_))
  show wpAny _ _ (callAny (.type "bytearray") _) _ _ _
  refine wpAny_pure ⟨Code.quiet_builtin _ (by decide +kernel), codeR_builtin (holds_builtin (by decide +kernel)) F.entry_type_call ?_⟩
  rw [Around.under_plain (weight_type_call_type "bytearray" _ []) rfl]
  unfold Builtin.«type.__call__»
  dsimp only
  refine rIf_false h1 ?_
  refine rIf_false h2 ?_
  refine wpR_bindA (wpAny_of_eq (ba_typeCall _) ?_)
  refine wpR_bindA (wpAny_of_eq hmro ?_)
  refine rIf_false rfl ?_
  refine wpR_bindA (wpAny_of_eq hmade ?_)
  refine wpR_bindA (wpAny_pure ?_)
  refine wpR_bindA (wpAny_holding (wpAny_call (ba_code_new _ ?_)))
  have hS : (s.heap.push { cls := .type "bytearray", data := .bytearray #[] }).get? s.heap.objs.size = some { cls := .type "bytearray", data := .bytearray #[] } := Heap.get?_push_size _ rfl
  have hT : ({ s with heap := s.heap.push { cls := .type "bytearray", data := .bytearray #[] } } : Shared).TypeIs (.ref s.heap.objs.size) "bytearray" := ⟨_, hS, rfl⟩
  refine wpR_bindA (wpAny_isInstance hT ba_sub ?_)
  refine rIf_false rfl ?_
  refine wpR_bind (wpR_holding ?_)
  unfold callSpecial?
  refine wpR_bindA (wpAny_specialOf hT ba_slot_init.lookup ?_)
  refine wpR_holding ?_
  refine wpR_bindA (wpAny_of_eq (ba_slot_init.bind _) ?_)
  refine wpR_bind (wpR_call (codeR_of_tree rfl ?_))
  show wpR _ A.in1.in1 (do checkBuiltinCall "bytearray.__init__" ⟨[.ref s.heap.objs.size, .int n u], []⟩; again (.builtin "bytearray.__init__" ⟨[.ref s.heap.objs.size, .int n u], []⟩)) _ _ _
  refine wpR_bindA (ba_slot_init.check _ _ _ _ _ _ _ _ hT (ba_args _ _) ?_)
  refine wpR_pure ⟨plainId_quiet ba_plain_init _, codeR_builtin (holds_builtin (by decide +kernel)) ba_entry_init ?_⟩
  refine ba_init h0 hn hS fun h' k hk hS' hz => ?_
  refine wpR_pure ?_
  refine rIf_false (by decide) ?_
  refine wpR_pure ?_
  refine hQ h' k (fun b o e => hk b o (Nat.ne_of_lt (Heap.lt_size e)) (Heap.get?_push_of_some _ e)) hS' ?_
  rw [hz]
  exact Heap.size_push _ _
end
end Mine
end
theorem Mine.off_RStep : True := by
  w_top off
  trivial
section
open PySem PySem.W PyProof.Rows PySem.Calls
set_option Elab.async false
set_option maxRecDepth 100000
set_option maxHeartbeats 8000000
namespace Mine
section
variable {prog : Program} {w : World} {A A₀ : Around} {s : Shared} {K : Frag} {L : Addr} {h₀ base : Heap} {m mg mb : Str → Option Value} {news : List (Addr × Obj)} {p : Program} {loose : List Str} {mean : ExcName → Option Value}
/-- entering a def of the text, from a clean caller -/
theorem codeR_def {env : Env} {outer : List Env} {R : Result → Shared → Prop} {name qual : Str} {params : Arguments} {body : List Stmt} {scope : Scope} {dV kV doc pm cdv ct oc : Value} {an od : Option Addr} {osl : Array (Option Value)} {f : Addr} {args : Args} {binds : List (Str × Value)}
    (B : Below A₀ base outer h₀) (F : Fr h₀ L s.heap m) (X₀ : K.In h₀) (N : News h₀ L s.heap news) (T : Top p loose mean mg mb h₀) (hA : A.frames = some (env :: outer)) (hf : env.frame = some L) (hke : env.scope.kind = .function)
    (ho : K.lookup f = some ⟨oc, od, .func (fnOf name qual params body scope dV kV doc pm an cdv ct), osl⟩) (hcd : codeIn K cdv qual = true) (hroom : A.depth < recursionLimit)
    (hbind : BindsTo s (fnOf name qual params body scope dV kV doc pm an cdv ct) args binds) (hloc : ∀ y ∈ binds, scope.names.lookup y.1 = some .local)
    (h : ∀ g L' h₁, Fr h₀ L g m → Fr g L' h₁ (fun y => binds.reverse.lookup y) → News g L' h₁ news → Below A base (env :: outer) g → K.In g → Top p loose mean mg mb g → (∀ p ∈ news, p.1 < L') →
      wpR (model prog w) (A.deeper (envOf qual scope L' f cdv)) (execs body (envOf qual scope L' f cdv))
        (fun fl s' => LeaveK h₀ L m g R (match fl with | .ret v => v | _ => .none) s')
        (fun e s' => wpR (model prog w) (A.deeper (envOf qual scope L' f cdv)) (leaving (envOf qual scope L' f cdv) e) (fun _ s'' => R (.error e) s'') (fun e' s'' => R (.error e') s'') s')
        { s with heap := h₁, toks := s.toks + binds.length })
    (hco : scope.isCoroutine = false) (hgen : scope.isGenerator = false) (hk : scope.kind = .function)
    (hcell : ∀ x ∈ scope.names, x.2 ≠ .cell) : codeR (model prog w) A (.call (.ref f) args) R s := by
  obtain ⟨FG, BG, st, lv⟩ := groundX (R := R) B F N hA hf hke
  refine codeR_call_def (fd := fnOf name qual params body scope dV kV doc pm an cdv ct) (body := body) (binds := binds) hroom ((X₀.keeps F.keep) _ _ ho) rfl (T.nolimit.keeps F.keep) (codeRec_of (X₀.keeps F.keep) hcd) rfl hbind hcell hloc (fun h₁ hns hk₁ => ?_) hco hgen hk
  exact wpR_mono (h _ s.heap.objs.size h₁ FG ⟨hns, fun b o e => hk₁ b o (of_hideAll _ e), Nat.le_of_eq (hideAll_size _ _)⟩
    (fun p hp => ⟨hk₁ _ _ (N p hp).1, Nat.ne_of_lt (Heap.lt_size (N p hp).1), hideAll_none _ (List.mem_map_of_mem hp)⟩) BG (X₀.keeps st) (T.keeps st) (fun p hp => Heap.lt_size (N p hp).1)) (fun fl s' hl => lv _ _ hl) fun _ _ y => y
end

section
variable {M : Model} {A : Around} {E : Value → Shared → Prop} {s : Shared} {env : Env}
/-- a statement that the library walks, then the rest -/
theorem R_stmt {st : Stmt} {rest : List Stmt} {Q : Flow → Shared → Prop}
    (h : wpAny M A (exec st env) (fun f s' => match f with | .next => wpR M A (execs rest env) Q E s' | f => Q f s') E s) :
    wpR M A (execs (st :: rest) env) Q E s := fun Γ p hΓ h1 h2 => by
  rw [execs_cons, Sem.wp_bind']
  refine Sem.wp_mono M Γ _ (fun f p' s' h' => ?_) (fun _ _ _ h' => h') _ _ (h Γ p hΓ)
  cases f <;> first | exact h' Γ p' hΓ h1 h2 | exact h'
/-- a statement that this layer walks, then the rest -/
theorem R_stmtR {st : Stmt} {rest : List Stmt} {Q : Flow → Shared → Prop}
    (h : wpR M A (exec st env) (fun f s' => match f with | .next => wpR M A (execs rest env) Q E s' | f => Q f s') E s) :
    wpR M A (execs (st :: rest) env) Q E s := fun Γ p hΓ h1 h2 => by
  rw [execs_cons, Sem.wp_bind']
  refine Sem.wp_mono M Γ _ (fun f p' s' h' => ?_) (fun _ _ _ h' => h') _ _ (h Γ p hΓ h1 h2)
  cases f <;> first | exact h' Γ p' hΓ h1 h2 | exact h'
theorem R_assign {x : Str} {pos' : Pos} {value : Expr} {pos : Pos} {Q : Flow → Shared → Prop}
    (h : wpR M A (eval value env) (fun v s₁ => wpAny M A (storeName env x v) (fun _ => Q .next) E s₁) E s)
    (hs : swapsWith value (some (.Name x pos')) pos.line env = pure false := by rfl) :
    wpR M A (exec (.Assign [.Name x pos'] value pos) env) Q E s := fun Γ p hΓ h1 h2 => by
  simp only [exec_Assign_Name env x pos' value pos hs, Sem.wp_bind', Sem.wp_cmd_standAt, Sem.wp_bindName, Sem.wp_pure']
  exact Sem.wp_mono M Γ _ (fun v _ s₁ h₁ => h₁ Γ _ hΓ) (fun _ _ _ h' => h') _ _ (h Γ _ hΓ h1 h2)
theorem R_if {test : Expr} {body orelse : List Stmt} {pos : Pos} {Q : Flow → Shared → Prop}
    (h : wpR M A (isTrue test env (eval test env))
      (fun b s₂ => if b then wpR M A (execs body env) Q E s₂ else wpR M A (execs orelse env) Q E s₂) E s) :
    wpR M A (exec (.If test body orelse pos) env) Q E s := fun Γ p hΓ h1 h2 => by
  simp only [exec_If, Sem.wp_bind', Sem.wp_cmd_standAt]
  refine Sem.wp_mono M Γ _ (fun b p₂ s₂ h₂ => ?_) (fun _ _ _ h' => h') _ _ (h Γ _ hΓ h1 h2)
  cases b <;> exact h₂ Γ p₂ hΓ h1 h2
theorem R_return {e : Expr} {pos : Pos} {Q : Flow → Shared → Prop} (h : wpR M A (eval e env) (fun v => Q (.ret v)) E s) :
    wpR M A (exec (.Return (some e) pos) env) Q E s := fun Γ p hΓ h1 h2 => by
  simp only [exec_Return_some, Sem.wp_bind', Sem.wp_cmd_standAt, Sem.wp_pure']; exact h Γ _ hΓ h1 h2
theorem R_list {elts : List Expr} {pos : Pos} {Q : Value → Shared → Prop}
    (h : wpR M A (spliced (backTo pos (starEach elts env))) (fun vs s₁ => wpAny M A (newList vs) Q E s₁) E s) : wpR M A (eval (.List elts pos) env) Q E s := by
  show wpR M A (do standAt pos; newList (← spliced (backTo pos (starEach elts env)))) Q E s
  exact wpR_bind (wpR_standAt (wpR_bind (wpR_mono h (fun _ _ x => wpR_of_any x) fun _ _ x => x)))
theorem R_spliced_nil {Q : List Value → Shared → Prop} (h : Q [] s) : wpR M A (spliced []) Q E s := wpR_pure h
theorem R_spliced_cons {x : Sem Value} {rest : List (Bool × Sem Value)} {Q : List Value → Shared → Prop}
    (h : wpR M A x (fun v s₁ => wpR M A (spliced rest) (fun vs s₂ => Q (v :: vs) s₂) E s₁) E s) :
    wpR M A (spliced ((false, x) :: rest)) Q E s := by
  show wpR M A (do let v ← x; let here ← (pure [v] : Sem (List Value)); return here ++ (← holding here (spliced rest))) Q E s
  refine wpR_bind (wpR_mono h (fun v s₁ h₁ => ?_) fun _ _ x => x)
  exact wpR_bind (wpR_pure (wpR_bind (wpR_holding (wpR_mono h₁ (fun vs s₂ h₂ => wpR_pure h₂) fun _ _ x => x))))
theorem R_args_nil {pos : Pos} {Q : List Value → Shared → Prop} (h : Q [] s) : wpR M A (spliced (backTo pos (starEach [] env))) Q E s := R_spliced_nil h
theorem R_args_cons {e : Expr} {rest : List Expr} {pos : Pos} {Q : List Value → Shared → Prop}
    (h : wpR M A (eval e env) (fun v s₁ => wpR M A (spliced (backTo pos (starEach rest env))) (fun vs s₂ => Q (v :: vs) s₂) E s₁) E s)
    (he : starEach (e :: rest) env = (false, eval e env) :: starEach rest env := by rfl) : wpR M A (spliced (backTo pos (starEach (e :: rest) env))) Q E s := by
  rw [he]; exact R_spliced_cons h
theorem R_binop {l r : Expr} {op : Operator} {pos : Pos} {Q : Value → Shared → Prop}
    (h : wpR M A (eval l env) (fun a s₁ => wpAny M A (eval r env) (fun b s₂ => wpAny M A (binaryOp op a b) Q E s₂) E s₁) E s) :
    wpR M A (eval (.BinOp l op r pos) env) Q E s := fun Γ p hΓ h1 h2 => by
  simp only [eval_BinOp, Sem.wp_bind', Sem.wp_holding, Sem.wp_cmd_standAt, Sem.wp_operate]
  exact Sem.wp_mono M Γ _ (fun a p₁ s₁ h₁ => Sem.wp_mono M Γ _ (fun b _ s₂ h₂ => h₂ Γ _ hΓ) (fun _ _ _ h' => h') _ _ (h₁ Γ p₁ hΓ))
    (fun _ _ _ h' => h') _ _ (h Γ p hΓ h1 h2)
end
end Mine
end
theorem Mine.off_RCall : True := by
  w_top off
  trivial
section
open PySem PySem.W PyProof.Rows PySem.Calls
set_option Elab.async false
set_option maxRecDepth 100000
set_option maxHeartbeats 8000000
namespace Mine
section
variable {M : Model} {A : Around} {E : Value → Shared → Prop} {s : Shared} {env : Env}
theorem R_evalArgs {f : Value} {x : Sem Value} {rest : List (Bool × Sem Value)} {Q : Args → Shared → Prop}
    (h : wpR M A (spliced ((false, x) :: rest)) (fun vs s' => Q ⟨vs, []⟩ s') E s) : wpR M A (evalArgs f true ((false, x) :: rest) []) Q E s := by
  unfold evalArgs
  show wpR M A (spliced ((false, x) :: rest) >>= _) Q E s
  refine wpR_bind (wpR_mono h (fun vs s' h' => ?_) fun _ _ x => x)
  refine wpR_holding ?_
  exact wpR_bind (wpR_pure (wpR_bind (wpR_pure (wpR_pure h'))))
theorem R_callWith_type {pos : Pos} {T : String} {args : List (Bool × Sem Value)} {Q : Value → Shared → Prop} (hplain : args.any (·.1) = false)
    (h : wpR M A (evalArgs (.type T) true args []) (fun a s₁ => wpR M A (call (.type T) a.pos a.kw) Q E s₁) E s) :
    wpR M A (callWith pos (.type T) [] args []) Q E s := by
  unfold callWith
  refine wpR_bind (wpR_holding (wpR_mono h (fun a s₁ h₁ => wpR_bind (wpR_standAt ?_)) fun _ _ x => x))
  simp only [hplain, List.any_nil, Bool.or_false]
  refine wpR_bind (wpR_pure ?_)
  exact wpR_bind (wpR_mono h₁ (fun r s₂ hr => wpR_bind (wpR_holding (wpR_of_any (wpAny_point (wpR_pure hr))))) fun _ _ x => x)
theorem R_Call {func : Expr} {args : List Expr} {pos : Pos} {Q : Value → Shared → Prop}
    (h : wpAny M A (eval func env) (fun f s₁ => wpR M A (callWith pos f [] (backTo pos (starEach args env)) []) Q E s₁) E s)
    (he : eval (.Call func args [] pos) env = (do callWith pos (← eval func env) [] (backTo pos (starEach args env)) (backToKw pos (keywordEach [] env))) := by rfl) :
    wpR M A (eval (.Call func args [] pos) env) Q E s := by
  rw [he]; exact wpR_bindA h
theorem R_args_type {pos : Pos} {T : String} {e : Expr} {rest : List Expr} {Q : Value → Shared → Prop}
    (h : wpR M A (spliced (backTo pos (starEach (e :: rest) env))) (fun vs s₁ => wpR M A (call (.type T) vs) Q E s₁) E s)
    (he : starEach (e :: rest) env = (false, eval e env) :: starEach rest env := by rfl)
    (hplain : (backTo pos (starEach rest env)).any (·.1) = false := by rfl) :
    wpR M A (callWith pos (.type T) [] (backTo pos (starEach (e :: rest) env)) []) Q E s := by
  rw [he] at h ⊢
  exact R_callWith_type (by show (false || (backTo pos (starEach rest env)).any (·.1)) = false; rw [hplain]; rfl) (R_evalArgs h)
end
end Mine
namespace Mine
def IsFn (h : Heap) (f : Addr) : Prop := ∃ o fd, h.get? f = some o ∧ o.data = .func fd
theorem isFn_K {K : Frag} {h₀ h : Heap} {L f : Addr} {m : Str → Option Value} {oc : Value} {od : Option Addr} {fd : FuncData} {osl : Array (Option Value)} (X : K.In h₀) (F : Fr h₀ L h m)
    (ho : K.lookup f = some ⟨oc, od, .func fd, osl⟩) : IsFn h f := ⟨_, fd, (X.keeps F.keep) _ _ ho, rfl⟩
section
variable {M : Model} {A : Around} {E : Value → Shared → Prop} {s : Shared} {env : Env}
theorem R_callWith_fn {pos : Pos} {a : Addr} {args : List (Bool × Sem Value)} {Q : Value → Shared → Prop} (hplain : args.any (·.1) = false)
    (h : wpR M A (evalArgs (.ref a) true args []) (fun x s₁ => IsFn s₁.heap a ∧ wpR M A (call (.ref a) x.pos x.kw) Q E s₁) E s) :
    wpR M A (callWith pos (.ref a) [] args []) Q E s := by
  unfold callWith
  refine wpR_bind (wpR_holding (wpR_mono h (fun x s₁ h₁ => wpR_bind (wpR_standAt ?_)) fun _ _ x => x))
  have tail : ∀ {t : Sem Value}, wpR M A t Q E s₁ → wpR M A (t >>= fun r => holding [r] point >>= fun _ => pure r) Q E s₁ :=
    fun ht => wpR_bind (wpR_mono ht (fun r s₂ hr => wpR_bind (wpR_holding (wpR_of_any (wpAny_point (wpR_pure hr))))) fun _ _ x => x)
  obtain ⟨⟨o, fd, ho, hd⟩, h₂⟩ := h₁
  simp only [hplain, List.any_nil, Bool.or_false]
  refine wpR_bind (m := keeperOf (.ref a)) (wpR_of_any ?_)
  unfold keeperOf
  refine wpAny_bind (wpAny_load ho ?_)
  rw [hd]
  refine wpAny_pure ?_
  by_cases hl : args.length + 2 * ([] : List (Option Str × Sem Value)).length > 30
  · have := tail h₂
    simpa only [if_pos hl, List.nil_append] using this
  · have := tail (t := callMarked plainCall (.ref a) x.pos x.kw) (by unfold callMarked; exact wpR_keep h₂)
    simpa only [if_neg hl, List.nil_append] using this
theorem R_args_fn {pos : Pos} {f : Addr} {e : Expr} {rest : List Expr} {Q : Value → Shared → Prop}
    (h : wpR M A (spliced (backTo pos (starEach (e :: rest) env))) (fun vs s₁ => IsFn s₁.heap f ∧ wpR M A (call (.ref f) vs) Q E s₁) E s)
    (he : starEach (e :: rest) env = (false, eval e env) :: starEach rest env := by rfl)
    (hplain : (backTo pos (starEach rest env)).any (·.1) = false := by rfl) :
    wpR M A (callWith pos (.ref f) [] (backTo pos (starEach (e :: rest) env)) []) Q E s := by
  rw [he] at h ⊢
  exact R_callWith_fn (by show (false || (backTo pos (starEach rest env)).any (·.1)) = false; rw [hplain]; rfl) (R_evalArgs h)
end
end Mine
end
theorem Mine.off_RTest : True := by
  w_top off
  trivial
section
open PySem PySem.W PyProof.Rows PySem.Calls
set_option Elab.async false
set_option maxRecDepth 100000
set_option maxHeartbeats 8000000
namespace Mine
section
variable {M : Model} {A : Around} {E : Value → Shared → Prop} {s : Shared} {env : Env}
theorem R_or_nil {pos : Pos} {whole : Sem Value} {Q : Bool → Shared → Prop} (h : Q false s) : wpR M A (isTrue (.BoolOp .Or [] pos) env whole) Q E s := wpR_pure (a := false) h
theorem R_or {x : Expr} {rest : List Expr} {pos : Pos} {whole : Sem Value} {Q : Bool → Shared → Prop}
    (h : wpR M A (isTrue x env (eval x env)) (fun c s' => if c then Q true s' else wpR M A (isTrue (.BoolOp .Or rest pos) env whole) Q E s') E s) :
    wpR M A (isTrue (.BoolOp .Or (x :: rest) pos) env whole) Q E s := by
  show wpR M A (do
    match BoolOp.Or, ← isTrue x env (eval x env) with
    | .And, false => pure false
    | .Or, true => pure true
    | _, _ => allTrue .Or rest env) Q E s
  refine wpR_bind (wpR_mono h (fun c s' h' => ?_) fun _ _ x => x)
  cases c with
  | false => exact h'
  | true => exact wpR_pure h'
theorem R_cmp {l r : Expr} {op : CmpOp} {pos : Pos} {whole : Sem Value} {Q : Bool → Shared → Prop}
    (h : wpR M A (eval l env) (fun a s₁ => wpAny M A (eval r env) (fun b s₂ => wpAny M A (compareOp op a b)
      (fun c s₃ => wpAny M A (truthy c) Q E s₃) E s₂) E s₁) E s)
    (hm : behindInMarks op r = false := by with_unfolding_all rfl) : wpR M A (isTrue (.Compare l [op] [r] pos) env whole) Q E s := fun Γ p hΓ h1 h2 => by
  simp only [isTrue_Compare1, markedBehindIn_of_false hm, Sem.wp_bind', Sem.wp_holding, Sem.wp_cmd_standAt, Sem.wp_operate]
  exact Sem.wp_mono M Γ _ (fun a p₁ s₁ h₁ => Sem.wp_mono M Γ _ (fun b _ s₂ h₂ => Sem.wp_mono M Γ _ (fun c p₃ s₃ h₃ => h₃ Γ p₃ hΓ)
    (fun _ _ _ h' => h') _ _ (h₂ Γ _ hΓ)) (fun _ _ _ h' => h') _ _ (h₁ Γ p₁ hΓ)) (fun _ _ _ h' => h') _ _ (h Γ p hΓ h1 h2)
end
end Mine
end
theorem Mine.off_BaK : True := by
  w_top off
  trivial
section
open PySem PySem.W PyProof.Rows PySem.Calls
set_option Elab.async false
set_option maxRecDepth 100000
set_option maxHeartbeats 8000000
namespace Mine
abbrev baObj (b : Array UInt8) : Obj := { cls := .type "bytearray", data := .bytearray b }
section
variable {prog : Program} {w : World} {A : Around} {E : Value → Shared → Prop} {s : Shared} {h₀ : Heap} {L : Addr} {m : Str → Option Value} {news : List (Addr × Obj)}
theorem ba_new_K {n : Int} {u : Tok} {Q : Value → Shared → Prop} (F : Fr h₀ L s.heap m) (N : News h₀ L s.heap news) (h0 : 0 ≤ n) (hn : n ≤ 1000000)
    (h : ∀ D h' k, Fr h₀ L h' m → News h₀ L h' ((D, baObj (Array.replicate n.toNat 0)) :: news) → (∀ p ∈ news, p.1 < D) → Q (.ref D) { s with heap := h', toks := k }) :
    wpR (model prog w) A (call (.type "bytearray") [.int n u]) Q E s := by
  refine ba_call_R h0 hn fun h' k hk hD hz => h _ h' k (F.keeps hk) (fun p hp => ?_) fun p hp => Heap.lt_size (N p hp).1
  rcases List.mem_cons.mp hp with rfl | hp
  · refine ⟨hD, ?_, ?_⟩
    · obtain ⟨oL, _, _, hL, _⟩ := F.ns
      exact Nat.ne_of_gt (Heap.lt_size hL)
    · cases q : h₀.get? s.heap.objs.size with
      | none => rfl
      | some o => exact absurd (Heap.lt_size (F.keep _ _ q)) (Nat.lt_irrefl _)
  · exact ⟨hk _ _ (N p hp).1, (N p hp).2⟩
end
/-- a contract: a call of a def of the text, from a clean caller -/
abbrev RC (d u : Nat) (prog : Program) (w : World) (K : Frag) (p : Program) (loose : List Str) (mean : ExcName → Option Value) (mg mb : Str → Option Value) (f : Addr) (vs : List Value) (R : Tok → Value) : Prop :=
  ∀ (news : List (Addr × Obj)) (dp un : Nat) (gd : Option (List Code)) (cn : Str) (cs : Scope) (a : Addr) (ccd : Value) (cl : List (Str × Addr)) (outer : List Env) (A₀ : Around) (base h₀ : Heap) (L : Addr) (m : Str → Option Value) (s : Shared) (Q E : Value → Shared → Prop),
    Below A₀ base outer h₀ → Fr h₀ L s.heap m → K.In h₀ → News h₀ L s.heap news → Top p loose mean mg mb h₀ → cs.kind = .function →
    dp + d < recursionLimit → un + u < cLine → (∀ (t : Tok) (h' : Heap) (tk' : Nat), Fr h₀ L h' m → News h₀ L h' news → Q (R t) { s with heap := h', toks := tk' }) →
      wpR (model prog w) (ktrTop dp un gd cn cs L a ccd cl outer) (call (.ref f) vs) Q E s
end Mine
end
theorem Mine.off_Loop : True := by
  w_top off
  trivial
section
open PySem PySem.W PyProof.Rows PySem.Calls
set_option Elab.async false
set_option maxRecDepth 100000
set_option maxHeartbeats 8000000
namespace Mine
section
variable {prog : Program} {w : World} {A : Around} {E : Value → Shared → Prop} {s : Shared} {env : Env} {h₀ : Heap} {x : Str} {body : List Stmt} {Q : Flow → Shared → Prop}
/-- a loop over a range: the names x (the loop's own) and z may turn, the ledger by J -/
theorem range_loop {r : Addr} {a₀ b₀ c : Int} {t₀ u₀ v₀ : Tok} {n : Nat} {m₀ : Str → Option Value} {news : List (Addr × Obj)} (z : Str) (J : Nat → List (Addr × Obj) → Prop)
    (hh : A.handled = none) (hr : IsRange s.heap r a₀ b₀ c t₀ u₀ v₀) (hsmall : Builtin.Range.small a₀ b₀ c = true) (hn : Builtin.Range.rangeSize a₀ b₀ c = (n : Int)) (F : Fr h₀ env.locals s.heap m₀) (N : News h₀ env.locals s.heap news)
    (hj : J 0 news)
    (turn : ∀ (i : Nat) (t : Tok) (u : Str → Option Value) (news₁ : List (Addr × Obj)) (I : Addr) (oI : Obj) (h : Heap) (tk : Nat), i < n → (∀ p ∈ news₁, p.1 ≠ I) → J i news₁ →
      Fr h₀ env.locals h (fun y => if y = x then some (.int (a₀ + (i : Int) * c) t) else if y = z then u y else m₀ y) → News h₀ env.locals h ((I, oI) :: news₁) →
      wpAny (model prog w) A (execs body env) (UnrPost h₀ env.locals { s with heap := h, toks := tk } I oI (fun m' news' => (∀ y, y ≠ x → y ≠ z → m' y = m₀ y) ∧ J (i + 1) news') Q) E { s with heap := h, toks := tk })
    (done : ∀ (u : Str → Option Value) (news₁ : List (Addr × Obj)) (h : Heap) (tk : Nat), J n news₁ → Fr h₀ env.locals h (fun y => if y = x then u y else if y = z then u y else m₀ y) → News h₀ env.locals h news₁ → Q .next { s with heap := h, toks := tk }) :
    wpAny (model prog w) A (pyIter (.ref r)) (fun it s₂ => LoopAtV prog w A h₀ env x body Q E it s₂) E s := by
  refine krs_iter hh hr hsmall hn F N fun I hI => ?_
  have key : ∀ (k i : Nat) (m₁ : Str → Option Value) (news₁ : List (Addr × Obj)), i + k = n → (∀ p ∈ news₁, p.1 ≠ I) → (∀ y, y ≠ x → y ≠ z → m₁ y = m₀ y) → J i news₁ →
      KrsRest prog w A E h₀ env x body Q s I a₀ c n k i m₁ news₁ := by
    intro k
    induction k with
    | zero =>
      intro i m₁ news₁ hik hI₁ hm hJ h tk F' N'
      have hin : i = n := by omega
      subst hin
      refine done m₁ news₁ h tk hJ ?_ N'
      have e : (fun y => if y = x then m₁ y else if y = z then m₁ y else m₀ y) = m₁ := by
        funext y
        by_cases h1 : y = x
        · rw [if_pos h1]
        · rw [if_neg h1]
          by_cases h2 : y = z
          · rw [if_pos h2]
          · rw [if_neg h2]; exact (hm y h1 h2).symm
      rw [e]; exact F'
    | succ k ih =>
      intro i m₁ news₁ hik hI₁ hm hJ t h tk F' N'
      have e : (fun y => if y = x then some (Value.int (a₀ + (i : Int) * c) t) else m₁ y) = fun y => if y = x then some (Value.int (a₀ + (i : Int) * c) t) else if y = z then m₁ y else m₀ y := by
        funext y
        by_cases h1 : y = x
        · rw [if_pos h1, if_pos h1]
        · rw [if_neg h1, if_neg h1]
          by_cases h2 : y = z
          · rw [if_pos h2]
          · rw [if_neg h2]; exact hm y h1 h2
      rw [e] at F'
      refine wpAny_mono (turn i t m₁ news₁ I _ h tk (by omega) hI₁ hJ F' N') (fun f s₂ hp => ?_) fun _ _ h => h
      have fin : ∀ {it : Obj}, UnrEnd h₀ env.locals { s with heap := h, toks := tk } I it (fun m' news' => (∀ y, y ≠ x → y ≠ z → m' y = m₀ y) ∧ J (i + 1) news') s₂ →
          UnrEnd h₀ env.locals { s with heap := h, toks := tk } I it (KrsRest prog w A E h₀ env x body Q s I a₀ c n k (i + 1)) s₂ := by
        rintro it ⟨h', tk', m', news', e, F₂, N₂, off, hm', hJ'⟩
        exact ⟨h', tk', m', news', e, F₂, N₂, off, ih (i + 1) m' news' (by omega) off hm' hJ'⟩
      cases f with
      | ret v => exact hp
      | brk => exact hp
      | next => exact fin hp
      | cont => exact fin hp
  exact key n 0 m₀ news (by omega) (fun p hp => Nat.ne_of_lt (hI p hp)) (fun _ _ _ => rfl) hj
end
end Mine
namespace Mine
/-- a halt for the walk -/
def Hold (P : Prop) : Prop := P
theorem Hold.mk {P : Prop} (h : P) : Hold P := h
theorem For_hold {prog : Program} {w : World} {A : Around} {s : Shared} {env : Env} {E : Value → Shared → Prop} {Q : Flow → Shared → Prop} {x : Str} {px pos : Pos} {iter : Expr} {body : List Stmt} (h₀ : Heap) (hx : env.kindOf x = some .local)
    (hp : (env.scope.kind == .class || (env.scope.kind == .module && env.locals != env.globals)) = false)
    (h : wpAny (model prog w) A (eval iter env) (fun xv s₁ => Hold (wpAny (model prog w) A (pyIter xv) (fun it s₂ => LoopAtV prog w A h₀ env x body Q E it s₂) E s₁)) E s)
    (hs : ∀ x, foldedSetIterable iter env x = pure x)
    (hE : PassesOwn (model prog w) A env E) :
    wpAny (model prog w) A (exec (.For (.Name x px) iter body [] pos) env) Q E s := For_invV h₀ hx hp h hs hE
theorem small_of {a b c : Int} (ha : -(2 ^ 40) ≤ a) (ha' : a < 2 ^ 40) (hb : -(2 ^ 40) ≤ b) (hb' : b < 2 ^ 40) (hc : 1 ≤ c) (hc' : c < 2 ^ 40) : Builtin.Range.small a b c = true := by
  have hn : 0 ≤ Builtin.Range.rangeSize a b c ∧ Builtin.Range.rangeSize a b c ≤ 2 ^ 42 := by
    unfold Builtin.Range.rangeSize
    rw [if_pos (by omega)]
    split
    · have h1 : 0 ≤ (b - a - 1) / c := Int.ediv_nonneg (by omega) (by omega)
      have h2 : (b - a - 1) / c ≤ b - a - 1 := Int.ediv_le_self _ (by omega)
      omega
    · omega
  unfold Builtin.Range.small
  simp only [Builtin.Range.rangeFitsLong, Bool.and_eq_true, Bool.or_eq_true, decide_eq_true_eq, beq_iff_eq, show c > 0 by omega, if_true]
  omega
theorem rangeSize_block {k : Int} {q : Nat} (hk : 0 < k) : Builtin.Range.rangeSize 0 ((q : Int) * k) k = (q : Int) := by
  unfold Builtin.Range.rangeSize
  rw [if_pos (by omega)]
  by_cases hq : q = 0
  · subst hq; simp
  · have hqk : (0 : Int) < (q : Int) * k := Int.mul_pos (by omega) hk
    rw [if_pos hqk]
    have e : ((q : Int) * k - 0 - 1) = (k - 1) + k * ((q : Int) - 1) := by
      rw [Int.mul_sub, Int.mul_comm k]; omega
    rw [e, Int.add_mul_ediv_left _ _ (by omega), Int.ediv_eq_zero_of_lt (by omega) (by omega)]
    omega
end Mine
namespace Mine
theorem execs_hold {M : Model} {A : Around} {E : Value → Shared → Prop} {s : Shared} {env : Env} {st : Stmt} {rest : List Stmt} {Q : Flow → Shared → Prop}
    (h : wpAny M A (exec st env) (fun f s' => match f with | .next => Hold (wpAny M A (execs rest env) Q E s') | f => Q f s') E s) :
    wpAny M A (execs (st :: rest) env) Q E s := wpAny_execs_cons (wpAny_mono h (fun f _ h => by cases f <;> exact h) fun _ _ h => h)
end Mine
end
theorem Mine.off_BaSet : True := by
  w_top off
  trivial
section
open PySem PySem.W PyProof.Rows PySem.Calls
set_option Elab.async false
set_option maxRecDepth 100000
set_option maxHeartbeats 8000000
namespace Mine
theorem ba_slot_setitem : Slot "bytearray" "__setitem__" "bytearray.__setitem__" :=
  .of (owner := "bytearray") (n := "__setitem__") (by rw [typeLookup_type, builtinLookup_eq_fast]; kernel_rfl) (by decide +kernel) (by decide +kernel) (by decide +kernel)
    (by first | exact .inl (by decide +kernel) | exact .inr (by decide +kernel)) (by rw [isSubtype_type]; kernel_rfl)
theorem ba_entry_setitem : entryFor table "bytearray.__setitem__" = some Builtin.«bytearray.__setitem__» := by first | exact entryFor_of_fast (by kernel_rfl) | exact entryFor_of_tree (by kernel_rfl)
theorem ba_args_setitem (a b c : Value) : argsOk "bytearray.__setitem__" ⟨[a, b, c], []⟩ := by unfold argsOk; kernel_rfl
theorem ba_look_buffer : typeLookup (.type "bytearray") "__buffer__" = pure (some (.builtin "bytearray.__buffer__")) := by rw [typeLookup_type, builtinLookup_eq_fast]; kernel_rfl
theorem ba_look_bytes : typeLookup (.type "bytearray") "__bytes__" = pure none := by rw [typeLookup_type, builtinLookup_eq_fast]; kernel_rfl
theorem ba_look_index : typeLookup (.type "bytearray") "__index__" = pure none := by rw [typeLookup_type, builtinLookup_eq_fast]; kernel_rfl
theorem ba_buf_ends : ("bytearray.__buffer__".endsWith ("." ++ "__buffer__")) = true := by decide +kernel
theorem ba_buf_drop : ("bytearray.__buffer__".dropRight ("__buffer__".length + 1)) = "bytearray" := by decide +kernel
section
variable {prog : Program} {w : World} {A : Around} {E : Value → Shared → Prop} {s : Shared} {h₀ : Heap} {L : Addr} {m : Str → Option Value} {news : List (Addr × Obj)}
theorem ba_set {D : Addr} {b : Array UInt8} {k v : Int} {t u : Tok} {Q : Unit → Shared → Prop} (hD : s.heap.get? D = some (baObj b)) (h0 : 0 ≤ k) (hk : k < b.size) (hz : b.size ≤ 1000000) (hv0 : 0 ≤ v) (hv : v < 256)
    (hQ : Q () { s with heap := s.heap.update D (Obj.mapBytearray (·.setIfInBounds k.toNat v.toNat.toUInt8)) }) :
    wpAny (model prog w) A (setItem (.ref D) (.int k t) (.int v u)) Q E s := by
  have hT : s.TypeIs (.ref D) "bytearray" := ⟨_, hD, rfl⟩
  unfold setItem
  try with_reducible refine wpAny_holding ?_
  first | refine wpAny_bind (wpAny_pure ?_) | skip
  refine wpAny_bind (wpAny_sequenceKey hT (by decide) ?_)
  refine wpAny_bind (wpAny_callSpecial?_slot (name := Str.ofString "__setitem__") hT ba_slot_setitem
    (wpAny_call_entry ba_slot_setitem hT ba_entry_setitem ?_ (ba_args_setitem _ _ _)))
  unfold Builtin.«bytearray.__setitem__»
  refine bm_if_false rfl ?_
  dsimp only
  refine wpAny_bind ?_
  unfold Builtin.Bytes.subscript?
  refine wpAny_bind (wpAny_specialOf (T := "int") (typeIs_int _ _ _) ba_int_index ?_)
  refine aIf_not (by decide) ?_
  refine wpAny_bind (wpAny_of_eq (rfl : asIndex (.int k t) = pure k) ?_)
  refine aIf_not (by unfold Builtin.Bytes.fitsIndex; simp only [Bool.not_eq_true, Bool.not_eq_false', Bool.and_eq_true, decide_eq_true_eq]; omega) ?_
  refine wpAny_pure ?_
  dsimp only
  refine wpAny_bind ?_
  unfold Builtin.Bytes.byteValue
  refine wpAny_bind (wpAny_of_eq (rfl : asIndex (.int v u) = pure v) ?_)
  refine aIf_not (by simp only [Bool.or_eq_true, decide_eq_true_eq]; omega) ?_
  refine wpAny_pure ?_
  refine wpAny_bind ?_
  unfold Builtin.Bytes.payload Builtin.Bytes.payload?
  refine wpAny_bind (wpAny_bind (wpAny_load hD ?_))
  refine wpAny_pure (wpAny_pure ?_)
  rw [StrLaws.seqIndex_nonneg h0 hk]
  dsimp only
  refine wpAny_bind ?_
  show wpAny _ _ (updateBytearray D (·.setIfInBounds k.toNat v.toNat.toUInt8)) _ _ _
  unfold updateBytearray
  refine wpAny_bind (wpAny_load hD ?_)
  refine wpAny_bind (wpAny_update hD ?_)
  have hD₂ : (s.heap.update D (Obj.mapBytearray (·.setIfInBounds k.toNat v.toNat.toUInt8))).get? D = some (baObj (b.setIfInBounds k.toNat v.toNat.toUInt8)) := Heap.get?_update_self _ hD rfl
  refine wpAny_lookBehind hD₂ ?_ ?_
  · show (if (b.setIfInBounds k.toNat v.toNat.toUInt8).size > sizeLine then some "bytearray:memory" else none) = none
    rw [if_neg]
    rw [Array.size_setIfInBounds, sizeLine_eq]
    omega
  · refine wpAny_pure ?_
    exact ⟨_, rfl, wpAny_pure hQ⟩
theorem ba_set_K {D : Addr} {b : Array UInt8} {k v : Int} {t u : Tok} {Q : Unit → Shared → Prop} {pre post : List (Addr × Obj)} (F : Fr h₀ L s.heap m) (N : News h₀ L s.heap (pre ++ (D, baObj b) :: post))
    (h1 : ∀ p ∈ pre, p.1 ≠ D) (h2 : ∀ p ∈ post, p.1 ≠ D) (h0 : 0 ≤ k) (hk : k < b.size) (hz : b.size ≤ 1000000) (hv0 : 0 ≤ v) (hv : v < 256)
    (h : ∀ h', Fr h₀ L h' m → News h₀ L h' (pre ++ (D, baObj (b.setIfInBounds k.toNat v.toNat.toUInt8)) :: post) → Q () { s with heap := h' }) :
    wpAny (model prog w) A (setItem (.ref D) (.int k t) (.int v u)) Q E s := by
  refine ba_set (N (D, baObj b) (List.mem_append_right _ (List.mem_cons_self ..))).1 h0 hk hz hv0 hv ?_
  have := news_upd (f := Obj.mapBytearray (·.setIfInBounds k.toNat v.toNat.toUInt8)) (o' := baObj (b.setIfInBounds k.toNat v.toNat.toUInt8)) F N h1 h2 rfl rfl
  exact h _ this.1 this.2
theorem ba_buffer {D : Addr} {b : Array UInt8} {M : Model} {Q : Option (Array UInt8) → Shared → Prop} (hD : s.heap.get? D = some (baObj b)) (h : Q (some b) s) :
    wpAny M A (Builtin.Bytes.buffer? "bytes.__new__" (.ref D) true) Q E s := by
  have hT : s.TypeIs (.ref D) "bytearray" := ⟨_, hD, rfl⟩
  unfold Builtin.Bytes.buffer?
  refine wpAny_bind (wpAny_specialOf hT ba_look_buffer ?_)
  refine wpAny_bind ?_
  unfold Builtin.Bytes.slotIsOwn
  refine wpAny_bind (wpAny_specialOf hT ba_look_buffer ?_)
  dsimp only
  rw [ba_buf_ends, ba_buf_drop]
  refine wpAny_ite_false rfl ?_
  refine wpAny_isInstance hT ba_sub ?_
  refine wpAny_ite_false rfl ?_
  refine wpAny_bind (wpAny_specialOf hT ba_look_buffer ?_)
  refine wpAny_bind (ba_ownRelease hT ?_)
  refine wpAny_ite_false rfl ?_
  refine wpAny_bind ?_
  unfold Builtin.Bytes.payload Builtin.Bytes.payload?
  refine wpAny_bind (wpAny_bind (wpAny_load hD ?_))
  exact wpAny_pure (wpAny_pure (wpAny_pure h))
theorem bytes_of_ba {D : Addr} {b : Array UInt8} {Q : Value → Shared → Prop} (hD : s.heap.get? D = some (baObj b)) (hz : b.size ≤ 1000000)
    (hQ : ∀ t k, Q (.bytes b t) { s with toks := k }) :
    codeAny (model prog w) A (.call (.builtin "bytes.__new__") ⟨[.type "bytes", .ref D], []⟩) (wants Q E) s := by
  refine codeAny_of_tree ?_
  show wpAny _ A.in1 (do checkBuiltinCall "bytes.__new__" ⟨[.type "bytes", .ref D], []⟩; again (.builtin "bytes.__new__" ⟨[.type "bytes", .ref D], []⟩)) _ _ s
  refine wpAny_bind (wpAny_of_eq (F.bm_newCall _) (wpAny_pure ⟨plainId_quiet F.bm_plain _, codeAny_builtin F.bm_entry ?_⟩))
  rw [Around.under_plainId F.bm_plain _]
  have hT : s.TypeIs (.ref D) "bytearray" := ⟨_, hD, rfl⟩
  unfold Builtin.«bytes.__new__»
  refine wpAny_bind (wpAny_of_eq (a := true) rfl ?_)
  refine bm_if_false rfl ?_
  refine wpAny_bind (wpAny_of_eq F.bm_sub ?_)
  refine bm_if_false rfl ?_
  refine wpAny_bind (wpAny_of_eq (F.bm_bind _) ?_)
  refine wpAny_bind (wpAny_of_eq (a := ()) rfl ?_)
  refine wpAny_bind (wpAny_of_eq (a := ()) rfl ?_)
  refine bm_if_false rfl ?_
  refine wpAny_bind (wpAny_specialOf hT ba_look_bytes ?_)
  refine wpAny_bind (wpAny_bind ?_)
  show wpAny _ _ (load D >>= _) _ _ _
  refine wpAny_bind (wpAny_load hD ?_)
  refine wpAny_pure (wpAny_pure ?_)
  refine bm_if_false rfl ?_
  refine wpAny_bind (wpAny_specialOf hT ba_look_index ?_)
  refine bm_if_true rfl ?_
  first
    | show wpAny _ _ (Builtin.Bytes.buffer? "bytes.__new__" (.ref D) true >>= _) _ _ _
    | (refine wpAny_bind ?_; show wpAny _ _ (Builtin.Bytes.buffer? "bytes.__new__" (.ref D) true >>= _) _ _ _)
  refine wpAny_bind (ba_buffer hD ?_)
  refine wpAny_bind (wpAny_rule ?_)
  refine wpAny_bind (wpAny_mkBytes ?_ (by rw [sizeLine_eq]; omega))
  show wpAny _ _ (if (Value.type "bytes" == Value.type "bytes") = true then _ else _) _ _ _
  refine bm_if_true (by decide) ?_
  first
    | exact wpAny_pure (hQ _ _)
    | exact wpAny_bind (wpAny_pure (wpAny_pure (hQ _ _)))
theorem call_bytes_ba {D : Addr} {b : Array UInt8} {Q : Value → Shared → Prop} (hD : s.heap.get? D = some (baObj b)) (hz : b.size ≤ 1000000)
    (hQ : ∀ t k, Q (.bytes b t) { s with toks := k }) : wpAny (model prog w) A (call (.type "bytes") [.ref D]) Q E s := by
  refine callType_codes (Q₁ := fun obj s₁ => s₁.TypeIs obj "bytes" ∧ Q obj s₁) F.bm_called (F.bm_typeCall _) F.entry_object_init
    (bytes_of_ba hD hz fun t k => ⟨PySem.W.typeIs_bytes _ _ _, hQ t k⟩) fun obj s₁ h₁ => ?_
  exact ⟨h₁.1, F.args_object_init_2 obj _, object_init_meets F.bm_called.init.lookup F.bm_called.made (by decide) prog w A.in1 _ s₁ ⟨h₁.1, rfl, h₁.2⟩⟩
end
end Mine
namespace Mine
theorem byte_item {prog : Program} {w : World} {A : Around} {E : Value → Shared → Prop} {s : Shared} {value slice : Expr} {b : Array UInt8} {t : Tok} {i : Int} {ui : Tok} {Q : Value → Shared → Prop} (hz : b.size ≤ 1000000) (h0 : 0 ≤ i) (h1 : i < (b.size : Int))
    (h : ∀ t' k, Q (.int ((b.getD i.toNat 0).toNat : Nat) t') { s with toks := k })
    (hs : subscripted slice false (.bytes b t) (.int i ui) = operate [.bytes b t, .int i ui] (getItem (.bytes b t) (.int i ui)) := by with_unfolding_all rfl)
    (ht : ∀ r, letTemporaryGo value (.bytes b t) r = pure () := by intro _; with_unfolding_all rfl) :
    wpAny (model prog w) A (subscriptTail value slice (.bytes b t) (.int i ui)) Q E s := by
  obtain ⟨l⟩ := b
  refine KBy.item_N (x := l) (by simp at hz; omega) h0 (by simpa using h1) ?_ hs ht
  have := h s.toks (s.toks + 1)
  simpa using this
theorem byte_back (c : UInt8) : ((c.toNat : Nat) : Int).toNat.toUInt8 = c := by simp
theorem byte_lt (c : UInt8) : ((c.toNat : Nat) : Int) < 256 := by have := c.toNat_lt; omega
end Mine
end
theorem Mine.off_Swp : True := by
  w_top off
  trivial
section
open PySem PySem.W PyProof.Rows PySem.Calls
set_option Elab.async false
set_option maxRecDepth 100000
set_option maxHeartbeats 8000000
namespace Mine
/-- each stretch of k octets turned round -/
def swp (b : Array UInt8) (k : Nat) : Array UInt8 := Array.ofFn (n := b.size) fun i => b.getD (i.val / k * k + (k - 1 - i.val % k)) 0
theorem swp_size (b : Array UInt8) (k : Nat) : (swp b k).size = b.size := by simp [swp]
theorem swp_get {b : Array UInt8} {k i : Nat} (h : i < b.size) : (swp b k)[i]? = some (b.getD (i / k * k + (k - 1 - i % k)) 0) := by
  simp [swp, Array.getElem?_ofFn, h]
theorem swp_at {b : Array UInt8} {k q j : Nat} (hj : j < k) (h : q * k + (k - 1 - j) < b.size) : (swp b k)[q * k + (k - 1 - j)]? = some (b.getD (q * k + j) 0) := by
  rw [swp_get h]
  have h1 : (q * k + (k - 1 - j)) / k = q := by
    rw [Nat.mul_comm, Nat.mul_add_div (by omega), Nat.div_eq_of_lt (by omega)]
    omega
  have h2 : (q * k + (k - 1 - j)) % k = k - 1 - j := by
    rw [Nat.mul_comm, Nat.mul_add_mod, Nat.mod_eq_of_lt (by omega)]
  rw [h1, h2]
  congr 2
  omega
theorem swp_step {b arr : Array UInt8} {k q j : Nat} (hs : arr.size = b.size) (hj : j < k) (hb : q * k + k ≤ b.size)
    (h1 : ∀ i, i < q * k → arr[i]? = (swp b k)[i]?) (h2 : ∀ j', j' < j → arr[q * k + (k - 1 - j')]? = (swp b k)[q * k + (k - 1 - j')]?) :
    (arr.setIfInBounds (q * k + (k - 1 - j)) (b.getD (q * k + j) 0)).size = b.size ∧
    (∀ i, i < q * k → (arr.setIfInBounds (q * k + (k - 1 - j)) (b.getD (q * k + j) 0))[i]? = (swp b k)[i]?) ∧
    ∀ j', j' < j + 1 → (arr.setIfInBounds (q * k + (k - 1 - j)) (b.getD (q * k + j) 0))[q * k + (k - 1 - j')]? = (swp b k)[q * k + (k - 1 - j')]? := by
  refine ⟨by simp [hs], fun i hi => ?_, fun j' hj' => ?_⟩
  · rw [Array.getElem?_setIfInBounds_ne (by omega)]
    exact h1 i hi
  · by_cases e : j' = j
    · subst e
      rw [Array.getElem?_setIfInBounds_self, if_pos (by omega), swp_at hj (by omega)]
    · rw [Array.getElem?_setIfInBounds_ne (by omega)]
      exact h2 j' (by omega)
theorem swp_block {b arr : Array UInt8} {k q : Nat} (h1 : ∀ i, i < q * k → arr[i]? = (swp b k)[i]?) (h2 : ∀ j', j' < k → arr[q * k + (k - 1 - j')]? = (swp b k)[q * k + (k - 1 - j')]?) :
    ∀ i, i < (q + 1) * k → arr[i]? = (swp b k)[i]? := by
  intro i hi
  by_cases h : i < q * k
  · exact h1 i h
  · rw [Nat.add_mul] at hi
    have := h2 (k - 1 - (i - q * k)) (by omega)
    have e : q * k + (k - 1 - (k - 1 - (i - q * k))) = i := by omega
    rwa [e] at this
theorem swp_all {b arr : Array UInt8} {k : Nat} (hs : arr.size = b.size) (hd : k ∣ b.size) (h : ∀ i, i < b.size / k * k → arr[i]? = (swp b k)[i]?) : arr = swp b k := by
  rw [Nat.div_mul_cancel hd] at h
  apply Array.ext_getElem?
  intro i
  by_cases hi : i < b.size
  · exact h i hi
  · rw [Array.getElem?_eq_none (by omega), Array.getElem?_eq_none (by rw [swp_size]; omega)]
end Mine
namespace Mine
theorem swp_whole {b : Array UInt8} {n : Nat} (h : b.size = n) : swp b n = b.reverse := by
  subst h
  apply Array.ext_getElem?
  intro i
  by_cases hi : i < b.size
  · rw [swp_get hi, Nat.div_eq_of_lt hi, Nat.mod_eq_of_lt hi, Array.getElem?_reverse hi]
    have h2 : b.size - 1 - i < b.size := by omega
    rw [Array.getElem?_eq_getElem h2]
    simp [Array.getD, h2]
  · rw [Array.getElem?_eq_none (by rw [swp_size]; omega), Array.getElem?_eq_none (by rw [Array.size_reverse]; omega)]
theorem swp_twice {b : Array UInt8} {n : Nat} (h : b.size = n) : swp (swp b n) n = b := by
  rw [swp_whole (by rw [swp_size]; exact h), swp_whole h, Array.reverse_reverse]
end Mine
end
theorem Mine.off_Latin : True := by
  w_top off
  trivial
section
open PySem PySem.W PyProof.Rows PySem.Calls
set_option Elab.async false
set_option maxRecDepth 100000
set_option maxHeartbeats 8000000
namespace Mine
open Builtin._codecs
theorem forIn_once {σ : Type} {f : Nat → σ → Sem (ForInStep σ)} {s0 s1 : σ} (n : Nat) (a : Nat) (h0 : f a s0 = pure (.yield s1)) (h1 : ∀ x, f x s1 = pure (.done s1)) :
    forIn (List.range' a (n + 1)) s0 f = (pure s1 : Sem σ) := by
  rw [List.range'_succ, List.forIn_cons, h0]
  show forIn (List.range' (a + 1) n) s1 f = pure s1
  cases n with
  | zero => rfl
  | succ n =>
    rw [List.range'_succ, List.forIn_cons, h1]
    rfl
theorem fold_bytes (f : Nat → List UInt8) (hf : ∀ c, f c = [c.toUInt8]) (l : List Nat) : ∀ acc : Array UInt8, l.foldl (fun acc y => acc ++ (f y).toArray) acc = acc ++ (l.map (·.toUInt8)).toArray := by
  induction l with
  | nil => intro acc; simp
  | cons c r ih => intro acc; rw [List.foldl_cons, ih, hf]; simp
theorem enc_latin (id : String) (self : Value) (s : Str) (h : ∀ c ∈ s.cps.toList, c < 256) (hne : 0 < s.length) (hz : s.length ≤ 1000000) : encodeNarrow id latin1Codec none self s = pure (s.cps.map (·.toUInt8)) := by
  unfold encodeNarrow
  simp only [Std.Legacy.Range.forIn_eq_forIn_range', Std.Legacy.Range.size]
  have hno : s.cps.findIdx? latin1Codec.bad = none := by
    rw [Array.findIdx?_eq_none_iff]
    intro c hc
    have := h c (Array.mem_toList_iff.mpr hc)
    show decide (c ≥ 256) = false
    exact decide_eq_false (by omega)
  obtain ⟨n, hn⟩ : ∃ n, s.cps.size = n + 1 := ⟨s.cps.size - 1, by have : s.length = s.cps.size := rfl; omega⟩
  have hl : (s.length - 0 + 1 - 1) / 1 = n + 1 := by simp [Str.length, hn]
  rw [hl]
  obtain ⟨x, hx⟩ : ∃ x, s.cps[0]? = some x := ⟨s.cps[0], Array.getElem?_eq_getElem (by omega)⟩
  have hxb : latin1Codec.bad x = false := by
    have := h x (by rw [← Array.getElem?_toList] at hx; exact List.mem_of_getElem? hx)
    show decide (x ≥ 256) = false
    exact decide_eq_false (by omega)
  have hex : s.cps.extract 0 s.cps.size = s.cps := by simp
  refine (congrArg (fun m => Sem.bind m _) (forIn_once (s1 := (s.cps.size, s.cps.map (·.toUInt8), ({} : Faults))) n 0 ?_ ?_)).trans ?_
  · dsimp only
    rw [if_neg (by simp), hx]
    dsimp only
    rw [hxb]
    simp only [hex, hno, Option.getD_none, Nat.zero_add, Bool.not_false, if_true]
    rw [← Array.foldl_toList, fold_bytes latin1Codec.bytesOf (fun _ => rfl)]
    have e : (#[] : Array UInt8) ++ (List.map (fun x => x.toUInt8) s.cps.toList).toArray = Array.map (fun x => x.toUInt8) s.cps := by
      apply Array.ext'; simp
    simp only [Array.extract_size] at *
    rw [e]
  · intro y
    dsimp only
    have hb : ¬ (s.cps.map (·.toUInt8)).size > sizeLine := by rw [Array.size_map, sizeLine_eq]; have : s.length = s.cps.size := rfl; omega
    rw [if_neg hb, Array.getElem?_eq_none (Nat.le_refl _)]
  · rfl
theorem forIn_steps {σ : Type} {f : Nat → σ → Sem (ForInStep σ)} (st : Nat → σ) (n : Nat) (h : ∀ i, i < n → ∀ x, f x (st i) = pure (.yield (st (i + 1)))) :
    ∀ (k i a : Nat), i + k = n → forIn (List.range' a k) (st i) f = (pure (st n) : Sem σ) := by
  intro k
  induction k with
  | zero => intro i a hi; have : i = n := by omega
            subst this; rfl
  | succ k ih =>
    intro i a hi
    rw [List.range'_succ, List.forIn_cons, h i (by omega)]
    exact ih (i + 1) (a + 1) (by omega)
theorem forIn_all {σ : Type} {f : Nat → σ → Sem (ForInStep σ)} {s0 s1 : σ} (st : Nat → σ) (n : Nat) (e0 : st 0 = s0) (e1 : st n = s1) (h : ∀ i, i < n → ∀ x, f x (st i) = pure (.yield (st (i + 1)))) :
    forIn (List.range' 0 n) s0 f = (pure s1 : Sem σ) := by
  subst e0 e1
  exact forIn_steps st n h n 0 0 (by omega)
theorem dec_latin (id : String) (b : Array UInt8) (hz : b.size ≤ 1000000) : runDecoder id latin1Decoder none true b 0 [] = pure (b.map (·.toNat), b.size) := by
  unfold runDecoder
  simp only [Std.Legacy.Range.forIn_eq_forIn_range', Std.Legacy.Range.size]
  have hl : (b.size - 0 + 1 - 1) / 1 = b.size := by simp
  rw [hl]
  refine (congrArg (fun m => Sem.bind m _) (forIn_all (s1 := (b.size, b.map (·.toNat), ({} : Faults))) (fun i => (i, (b.extract 0 i).map (·.toNat), ({} : Faults))) b.size (by simp) (by simp) ?_)).trans ?_
  · intro i hi x
    dsimp only
    have hb : ¬ ((b.extract 0 i).map (·.toNat)).size > sizeLine := by rw [Array.size_map, Array.size_extract, sizeLine_eq]; omega
    rw [if_neg hb, if_neg (by omega)]
    show pure (ForInStep.yield (i + 1, (b.extract 0 i).map (·.toNat) ++ [(b.getD i 0).toNat].toArray, ({} : Faults))) = _
    have e : (b.extract 0 i).map (·.toNat) ++ [(b.getD i 0).toNat].toArray = (b.extract 0 (i + 1)).map (·.toNat) := by
      apply Array.ext'
      simp only [Array.toList_append, Array.toList_map, Array.toList_extract, List.extract_eq_drop_take, List.drop_zero, Nat.sub_zero]
      rw [List.take_add_one, Array.getElem?_toList, Array.getElem?_eq_getElem hi]
      simp [Array.getD, hi]
    rw [e]
  · rfl
end Mine
end
theorem Mine.off_Codec : True := by
  w_top off
  trivial
section
open PySem PySem.W PyProof.Rows PySem.Calls
set_option Elab.async false
set_option maxRecDepth 100000
set_option maxHeartbeats 8000000
namespace Mine
open Builtin Builtin._codecs
theorem enc_entry_eq (x : PySem.Str) (t u : Tok) : «str.encode» ⟨[.str x t, .str (PySem.Str.ofString "latin-1") u], []⟩ =
    ((encodeNarrow "str.encode" latin1Codec none (.str x t) x >>= fun b => mkBytes b) >>= fun v => ret v) := by kernel_rfl
theorem dec_entry_eq (c : UInt8) (cs : List UInt8) (t u : Tok) : «bytes.decode» ⟨[.bytes (c :: cs).toArray t, .str (PySem.Str.ofString "latin-1") u], []⟩ = (mkStr (PySem.Str.ofString "utf-8") >>= fun _ => mkStr (PySem.Str.ofString "latin-1") >>= fun e => mkStr (PySem.Str.ofString "bytes.decode") >>= fun d =>
    call (.builtin "_codecs.decode.text") [.bytes (c :: cs).toArray t, e, .none, d] >>= fun v => ret v) := by kernel_rfl
theorem dec_road_eq {id : String} {b : Array UInt8} : _codecs.decodeRoad id b (PySem.Str.ofString "latin-1") none [] = (_codecs.runDecoder id _codecs.latin1Decoder none true b 0 [] >>= fun r => mkStr ⟨r.1⟩) := by kernel_rfl
theorem enc_args (a b : Value) : argsOk "str.encode" ⟨[a, b], []⟩ := by unfold argsOk; kernel_rfl
theorem dec_args (a b : Value) : argsOk "bytes.decode" ⟨[a, b], []⟩ := by unfold argsOk; kernel_rfl
/-- the octets of a text of signs below 256, and back -/
def octs (x : PySem.Str) : Array UInt8 := x.cps.map (·.toUInt8)
def chrs (b : Array UInt8) : PySem.Str := ⟨b.map (·.toNat)⟩
section
variable {prog : Program} {w : World} {A : Around} {E : Value → Shared → Prop} {s : Shared}
theorem encode_K {x : PySem.Str} {t u : Tok} {Q : Value → Shared → Prop} (h : ∀ c ∈ x.cps.toList, c < 256) (hne : 0 < x.length) (hz : x.length ≤ 1000000)
    (hq : ∀ t' k, Q (.bytes (octs x) t') { s with toks := k }) : wpAny (model prog w) A (call (.builtin "str.encode") [.str x t, .str (PySem.Str.ofString "latin-1") u]) Q E s := by
  refine call_meets F.slot_str_encode (typeIs_str _ _ _) F.entry_str_encode (enc_args _ _) (S := fun _ R s => ∀ t' k, R (.ok (.ret (.bytes (octs x) t'))) { s with toks := k }) ?_ hq
  refine .of_wp fun prog w A R s hS => ?_
  rw [enc_entry_eq, enc_latin _ _ _ h hne hz]
  refine wpAny_bind (wpAny_bind (wpAny_pure (wpAny_mkBytes ?_ ?_)))
  · exact wpAny_pure ⟨_, rfl, hS _ _⟩
  · rw [Array.size_map, sizeLine_eq]; have : x.length = x.cps.size := rfl; omega
theorem dec_text {b : Array UInt8} {t t1 t2 : Tok} {d : PySem.Str} (hz : b.size ≤ 1000000) :
    Meets («_codecs.decode.text» ⟨[.bytes b t, .str (PySem.Str.ofString "latin-1") t1, .none, .str d t2], []⟩) (fun _ R s => R (.ok (.ret (.str (chrs b) s.toks))) { s with toks := s.toks + 1 }) := by
  refine .of_wp fun prog w A R s h => ?_
  show wpAny _ _ (Bytes.bytesLike _ (.bytes b t) >>= fun r => _) _ _ s
  refine wpAny_bind (wpAny_of_eq KBd.like_eq ?_)
  refine wpAny_bind (wpAny_of_eq KBd.held_eq ?_)
  show wpAny _ _ (_codecs.decodeRoad _ b (PySem.Str.ofString "latin-1") none [] >>= fun v => _) _ _ s
  rw [dec_road_eq, dec_latin _ _ hz]
  refine wpAny_bind (wpAny_bind (wpAny_pure ?_))
  refine wpAny_mkStr (wpAny_pure ⟨_, rfl, h⟩) ?_
  show (b.map (·.toNat)).size ≤ sizeLine
  rw [Array.size_map, sizeLine_eq]; omega
theorem decode_K {b : Array UInt8} {t u : Tok} {Q : Value → Shared → Prop} (hne : 0 < b.size) (hz : b.size ≤ 1000000)
    (hq : ∀ t' k, Q (.str (chrs b) t') { s with toks := k }) : wpAny (model prog w) A (call (.builtin "bytes.decode") [.bytes b t, .str (PySem.Str.ofString "latin-1") u]) Q E s := by
  obtain ⟨l⟩ := b
  cases l with
  | nil => simp at hne
  | cons c cs =>
    refine call_meets FB.slot_bytes_decode (typeIs_bytes _ _ _) FB.entry_bytes_decode (dec_args _ _) (S := fun _ R s => ∀ t' k, R (.ok (.ret (.str (chrs (c :: cs).toArray) t'))) { s with toks := k }) ?_ hq
    refine .of_wp fun prog w A R s hS => ?_
    rw [dec_entry_eq]
    refine wpAny_bind (wpAny_mkStr ?_ (by decide))
    refine wpAny_bind (wpAny_mkStr ?_ (by decide))
    refine wpAny_bind (wpAny_mkStr ?_ (by decide))
    exact wpAny_bind (call_function_meets KBd.kind_text KBd.plain_text KBd.entry_text (KBd.args_text _ _ _ _) (dec_text hz) (wpAny_pure ⟨_, rfl, hS _ _⟩))
end
end Mine
namespace Mine
theorem enc_type : typeOf (.builtin "str.encode") = pure (.type "method_descriptor") := by kernel_rfl
theorem method_encode {M : Model} {A : Around} {E : Value → Shared → Prop} {s : Shared} {x : PySem.Str} {t : Tok} {pl : Sem Bool} {Q : Value × List Value → Shared → Prop} (h : Q (.builtin "str.encode", [.str x t]) s) :
    wpAny M A (getMethod (.str x t) (PySem.Str.ofString "encode") pl) Q E s := by
  with_reducible exact getMethod_builtin (typeIs_str _ _ _) F.plainAttrs_str F.slot_str_encode enc_type (fun _ e => nomatch e) h
end Mine
namespace Mine
theorem call_type_bytes {prog : Program} {w : World} {A : Around} {E : Value → Shared → Prop} {s : Shared} {b : Array UInt8} {t : Tok} {Q : Value → Shared → Prop} (h : Q (.type "bytes") s) :
    wpAny (model prog w) A (call (.type "type") [.bytes b t]) Q E s := call_type_of (typeIs_bytes _ _ _) (by decide +kernel) h
end Mine
end
theorem Mine.off_Base : True := by
  w_top off
  trivial
section
open PySem PySem.W PyProof.Rows
set_option Elab.async false
set_option maxRecDepth 100000
set_option maxHeartbeats 8000000
namespace Mine
theorem tok_pos {α : Type} {M : Model} {A : Around} {t : Sem α} {Q : α → Shared → Prop} {E : Value → Shared → Prop} {h : Heap} {g : Array GenState} {d : Drawn} {k : Nat} {o : OsState}
   (hk : 0 < k) (H : ∀ tk, 0 < tk → wpAny M A t Q E ⟨h, g, d, tk, o⟩) : wpAny M A t Q E ⟨h, g, d, k, o⟩ := H k hk
section
variable {prog : Program} {w : World} {A : Around} {E : Value → Shared → Prop} {s : Shared} {x y z : Str} {t u v : Tok} {Q : Value → Shared → Prop}
theorem replace_up (hu : u ≠ 0) (hv : v ≠ 0) (huv : u ≠ v) (hyz : (y == z) = false) (hb : x.length + (x.length + 1) * z.length ≤ 16777216)
    (hq : ∀ t' k, s.toks ≤ k → Q (.str (Txt.replace x y z) t') { s with toks := k }) : wpAny (model prog w) A (call (.builtin "str.replace") [.str x t, .str y u, .str z v]) Q E s := by
  have e : (2 : Nat) ^ 24 = 16777216 := by decide
  have hl : Builtin.Str.tooLong (x.length + (Builtin.Str.occurrences x y 0 x.length (x.length + 1)).length * z.length) = false := by
    have h1 := StrLaws.occ_length_le x y 0 x.length (x.length + 1)
    have h2 : (Builtin.Str.occurrences x y 0 x.length (x.length + 1)).length * z.length ≤ (x.length + 1) * z.length := Nat.mul_le_mul_right _ h1
    unfold Builtin.Str.tooLong sizeLine
    exact decide_eq_false (by omega)
  refine call_gives F.slot_str_replace (typeIs_str _ _ _) F.entry_str_replace (F.args_str_replace_3 _ _ _)
    (gives_str_replace x y z t u v fun _ => ⟨by simp [hu, hv], by simp [huv], hyz, hl⟩) ?_
  unfold Txt.replace at hq
  cases hc : ((Builtin.Str.occurrences x y 0 x.length (x.length + 1)).isEmpty || (y.length == 0 && z.length == 0))
  · rw [hc] at hq
    simp only [Bool.false_eq_true, if_false] at hq ⊢
    exact ⟨fits_replaced y hb, hq _ _ (Nat.le_succ _)⟩
  · rw [hc] at hq
    simp only [if_true] at hq ⊢
    exact hq t s.toks (Nat.le_refl _)
end
end Mine
namespace Mine
def rev (x : Str) : Str := ⟨x.cps.reverse⟩
theorem rev_length (x : Str) : (rev x).length = x.length := by simp [rev, Str.length]
theorem sliceBy_rev (x : Str) (u : Tok) : Txt.sliceBy x none none (-1, u) = rev x := by
  apply Str.ext'
  apply Array.ext'
  rw [step_rev_list]
  simp only [rev, Array.toList_reverse]
  apply List.ext_getElem
  · simp [Str.length]
  · intro i h1 h2
    simp only [List.length_map, List.length_range] at h1
    have h1' : i < x.cps.size := h1
    have hlt : x.cps.size - 1 - i < x.cps.size := by omega
    simp only [List.getElem_map, List.getElem_range, List.getElem_reverse, Array.length_toList, Array.getElem_toList, Str.length]
    simp [Array.getD, hlt]
def dq (x : Str) : Str := Txt.replace x (Str.ofString "\"") (Str.ofString "\"\"")
theorem dq_cps (x : Str) : (dq x).cps.toList = StrLaws.dbl 34 x.cps.toList := by
  have e1 : Str.ofString "\"" = ⟨#[34]⟩ := by decide +kernel
  have e2 : Str.ofString "\"\"" = ⟨#[34, 34]⟩ := by decide +kernel
  unfold dq
  rw [e1, e2]
  exact StrLaws.replace_double x 34
theorem dbl_length_le (c : Nat) : ∀ l : List Nat, (StrLaws.dbl c l).length ≤ 2 * l.length := by
  intro l
  induction l with
  | nil => simp [StrLaws.dbl]
  | cons a r ih =>
    simp only [StrLaws.dbl, List.length_cons]
    split <;> simp only [List.length_cons] <;> omega
theorem dq_length (x : Str) : (dq x).length ≤ 2 * x.length := by
  have h := dbl_length_le 34 x.cps.toList
  rw [← dq_cps] at h
  simpa [Str.length] using h
end Mine
namespace Mine
theorem slice_to {x : Str} {k : Nat} (h : k ≤ x.cps.toList.length) : Txt.slice x none (some (k : Int)) = ⟨(x.cps.toList.take k).toArray⟩ := by
  have := StrLaws.sliceText_to (x := x) (j := (k : Int)) ⟨by omega, by omega⟩
  show StrLaws.sliceText x none (some (k : Int)) = _
  rw [this]; simp
theorem slice_ij {x : Str} {j k : Nat} (hjk : j ≤ k) (h : k ≤ x.cps.toList.length) : Txt.slice x (some (j : Int)) (some (k : Int)) = ⟨((x.cps.toList.drop j).take (k - j)).toArray⟩ := by
  show StrLaws.sliceText x (some (j : Int)) (some (k : Int)) = _
  exact StrLaws.sliceText_nat x hjk (by simpa [Str.length] using h)
end Mine
end
theorem Mine.off_Unq : True := by
  w_top off
  trivial
section
open PySem PySem.W PyProof.Rows PySem.Calls
set_option Elab.async false
set_option maxRecDepth 100000
set_option maxHeartbeats 8000000
namespace Mine
/-- a quoted text up to its closing mark, its doubled marks single -/
def unq : List Nat → List Nat
  | [] => []
  | [c] => if c = 34 then [] else [c]
  | c :: d :: r => if c = 34 then (if d = 34 then 34 :: unq r else []) else c :: unq (d :: r)
theorem unq_plain {c : Nat} (r : List Nat) (h : c ≠ 34) : unq (c :: r) = c :: unq r := by
  cases r with
  | nil => simp [unq, h]
  | cons d r => simp [unq, h]
theorem unq_two (r : List Nat) : unq (34 :: 34 :: r) = 34 :: unq r := by simp [unq]
theorem unq_end {d : Nat} (r : List Nat) (h : d ≠ 34) : unq (34 :: d :: r) = [] := by simp [unq, h]
theorem unq_last : unq [34] = [] := by simp [unq]
theorem item_at {x : Str} {p l : List Nat} {i c : Nat} (hx : x.cps.toList = p ++ l) (h : l[i]? = some c) : Txt.item x ((p.length + i : Nat) : Int) = ⟨#[c]⟩ := by
  have hlt : i < l.length := by
    cases hq : Nat.decLt i l.length with
    | isTrue h => exact h
    | isFalse h' => rw [List.getElem?_eq_none (by omega)] at h; cases h
  have hl : x.length = p.length + l.length := by
    have := congrArg List.length hx
    simpa [Str.length] using this
  have hc : x.cps[p.length + i]? = some c := by
    rw [← Array.getElem?_toList, hx, List.getElem?_append_right (by omega), Nat.add_sub_cancel_left]
    exact h
  unfold Txt.item Txt.charAt
  rw [StrLaws.at_nonneg (by omega) (by rw [Int.toNat_natCast]; exact hc)]
  rfl
theorem quote_ne {c : Nat} : ((⟨#[c]⟩ : Str) != Str.ofString "\"") = true ↔ c ≠ 34 := by
  have e : Str.ofString "\"" = ⟨#[34]⟩ := by decide +kernel
  rw [e, bne_iff_ne]
  constructor
  · rintro h rfl; exact h rfl
  · intro h e; have := congrArg Str.cps e; simp at this; exact h this
theorem quote_eq {c : Nat} : ((⟨#[c]⟩ : Str) == Str.ofString "\"") = true ↔ c = 34 := by
  have e : Str.ofString "\"" = ⟨#[34]⟩ := by decide +kernel
  rw [e, beq_iff_eq]
  constructor
  · intro h; have := congrArg Str.cps h; simpa using this
  · rintro rfl; rfl
end Mine
end
theorem Mine.off_A_both : True := by
  w_top off
  trivial
section
open PySem PySem.W PyProof.Rows
set_option Elab.async false
set_option maxRecDepth 100000
set_option maxHeartbeats 8000000
namespace Mine
def bothOf (a b : Str) : Str := Str.ofString "257 \"" ++ dq a ++ Str.ofString "\" - \"" ++ rev (dq b) ++ Str.ofString "\" 752"
theorem both_c (w : World) (mean : ExcName → Option Value) (mg mb : Str → Option Value) (news : List (Addr × Obj)) (a b : Str) (ta tb : Tok) :
   CbClaim PySem.Challenge.rw_pe0048_01.row.prog w (hd1.heap_39 w.params) hd1.view_39 (looseW hd1.view_39 []) mean mg mb 84 news [] (a.length ≤ 1000 ∧ b.length ≤ 1000) [.str a ta, .str b tb] (fun t => .str (bothOf a b) t) := by
  k_fill
  unfold CbClaim
  dsimp only [CbLists, CbRet]
  intros
  rename_i hab _ _ hret
  obtain ⟨ha, hb⟩ := hab
  refine wpAny_call ?_
  k_dflt cell_enter
  refine tok_pos (Nat.succ_pos _) ?_
  intro tk htk
  k_steps
  refine replace_up (Nat.ne_of_gt htk) (Nat.succ_ne_zero _) (Nat.ne_of_lt (Nat.lt_succ_self _)) (by decide +kernel) (by rw [show (Str.ofString "\"\"").length = 2 from by decide +kernel]; omega) ?_
  intro t1 k1 hk1
  have hA1 := dq_length a
  unfold bothOf at hret
  generalize hA : dq a = a1 at hA1 hret
  unfold dq at hA
  rw [hA]
  clear hA
  k_steps
  refine replace_up (Nat.ne_of_gt (Nat.lt_of_lt_of_le (Nat.succ_pos _) hk1)) (Nat.succ_ne_zero _) (Nat.ne_of_lt (Nat.lt_succ_self _)) (by decide +kernel) (by rw [show (Str.ofString "\"\"").length = 2 from by decide +kernel]; omega) ?_
  intro t2 k2 hk2
  have hB1 := dq_length b
  generalize hB : dq b = b1 at hB1 hret
  unfold dq at hB
  rw [hB]
  clear hB
  k_steps
  have hC := rev_length b1
  rw [sliceBy_rev]
  generalize rev b1 = b2 at hret hC ⊢
  dsimp only
  k_steps
  cb_end hret
end Mine
end
theorem Mine.off_A_swap : True := by
  w_top off
  trivial
section
open PySem PySem.W PyProof.Rows PySem.Calls
set_option Elab.async false
set_option maxRecDepth 100000
set_option maxHeartbeats 8000000
namespace Mine
theorem swap_c (w : World) (mean : ExcName → Option Value) (mg mb : Str → Option Value) (b : Array UInt8) (wd : Int) (tb tw : Tok)
   (h0 : 0 < wd) (hdvd : wd.toNat ∣ b.size) (hsz : b.size ≤ 100000) (hwd : wd ≤ 100000) :
   RC 1 10 PySem.Challenge.rw_pe0048_01.row.prog w (hd1.heap_39 w.params) hd1.view_39 (looseW hd1.view_39 []) mean mg mb 72 [.bytes b tb, .int wd tw] (fun t => .bytes (swp b wd.toNat) t) := by
  k_fill
  intro news dp un gd cn cs a ccd cl outer A₀ base h₀ L m s Q E B F X N T hcs hdp hun hret
  refine wpR_call ?_
  k_dflt (refine' codeR_def (binds := [(Str.ofString "data", .bytes b tb), (Str.ofString "width", .int wd tw)]) B F X N T rfl rfl hcs ?k6 ?k7 ?k8 ?k9 ?kB ?_ ?c2 ?c3 ?c4 ?c5; (case k6 => k_is); (case k7 => k_is); (case k8 => ktr_room); (case k9 => exact BindsTo.of_eq rfl); (case c5 => decide); (case kB => exact locs rfl); (case c2 => exact rfl); (case c3 => exact rfl); (case c4 => exact rfl); k_whole)
  intro g' L' h' FG' F' N' B' X' T' hlt
  clear F N X T B
  refine R_stmtR (R_assign ?_)
  refine R_Call ?_
  k_steps
  refine R_args_type (R_args_cons (wpR_of_any ?_))
  k_steps
  refine R_args_nil ?_
  dsimp only
  refine ba_new_K (by assumption) (by assumption) (by omega) (by omega) ?_
  intro D h1 k1 F1 N1 hD
  dsimp only
  k_steps
  refine wpR_of_any (wpAny_mono (E := fun _ _ => False) (Q := _) ?_ (fun _ _ h => h) (fun _ _ h => h.elim))
  refine wpAny_execs_cons (For_hold g' rfl rfl ?_ (fun _ => rfl) PassesOwn.never)
  k_steps
  rename_i hR F2 N2 hk2
  refine Hold.mk ?_
  have hsq : (b.size : Int) = ((b.size / wd.toNat : Nat) : Int) * wd := by
    have h1 : b.size / wd.toNat * wd.toNat = b.size := Nat.div_mul_cancel hdvd
    have h2 : ((wd.toNat : Nat) : Int) = wd := by omega
    rw [← h2, ← Int.natCast_mul, Int.toNat_natCast, h1]
  refine range_loop (n := b.size / wd.toNat) (Str.ofString "j") (fun q news₁ => ∃ arr : Array UInt8, news₁ = (D, baObj arr) :: news ∧ arr.size = b.size ∧ ∀ i, i < q * wd.toNat → arr[i]? = (swp b wd.toNat)[i]?) rfl hR (small_of (by omega) (by omega) (by omega) (by omega) (by omega) (by omega)) (by rw [hsq]; exact rangeSize_block h0) F2 N2 ?_ ?_ ?_
  · exact ⟨_, rfl, by simp, fun i hi => by omega⟩
  · intro q tq u news₁ I oI h3 tk3 hq hI hJ F3 N3
    obtain ⟨arr, rfl, hasz, harr⟩ := hJ
    have hp : q * wd.toNat + wd.toNat ≤ b.size := by
      have h1 : (q + 1) * wd.toNat ≤ b.size / wd.toNat * wd.toNat := Nat.mul_le_mul_right _ hq
      rw [Nat.div_mul_cancel hdvd, Nat.add_mul, Nat.one_mul] at h1
      exact h1
    have eq : 0 + (q : Int) * wd = ((q * wd.toNat : Nat) : Int) := by
      have h2 : ((wd.toNat : Nat) : Int) = wd := by omega
      rw [Int.zero_add, Int.natCast_mul, h2]
    rw [eq] at F3
    refine wpAny_execs_cons (For_hold g' rfl rfl ?_ (fun _ => rfl) PassesOwn.never)
    k_steps
    rename_i hR' F4 N4 hk4
    refine Hold.mk ?_
    refine range_loop (n := wd.toNat) (Str.ofString "j") (fun j news₂ => ∃ arr : Array UInt8, news₂ = (I, oI) :: (D, baObj arr) :: news ∧ arr.size = b.size ∧ (∀ i, i < q * wd.toNat → arr[i]? = (swp b wd.toNat)[i]?) ∧ ∀ j', j' < j → arr[q * wd.toNat + (wd.toNat - 1 - j')]? = (swp b wd.toNat)[q * wd.toNat + (wd.toNat - 1 - j')]?) rfl hR' (small_of (by omega) (by omega) (by omega) (by omega) (by omega) (by omega)) (by rw [rangeSize_one, if_pos h0]; omega) F4 N4 ?_ ?_ ?_
    · exact ⟨_, rfl, hasz, harr, fun j' hj' => by omega⟩
    · intro j tj u' news₂ I' oI' h5 tk5 hj hI' hJ' F5 N5
      obtain ⟨arr₁, rfl, hasz₁, harr₁, harr₂⟩ := hJ'
      have ej : 0 + (j : Int) * 1 = (j : Int) := by omega
      rw [ej] at F5
      have hstep := swp_step hasz₁ hj hp harr₁ harr₂
      generalize hP : q * wd.toNat = P at *
      have hj' : (j : Int) < wd := by omega
      k_steps
      refine byte_item (by omega) (by omega) (by omega) ?_
      intro t6 k6
      have e2 : ((P : Int) + (j : Int)).toNat = P + j := by omega
      rw [e2]
      dsimp only
      k_steps
      refine ba_set_K (pre := [(I', oI'), (I, oI)]) (post := news) F5 N5 ?_ (fun p hp => Nat.ne_of_lt (hD p hp)) (by omega) (by omega) (by omega) (Int.natCast_nonneg _) (byte_lt _) ?_
      · intro p hp
        rcases List.mem_cons.mp hp with rfl | hp
        · exact (hI' (D, baObj arr₁) (List.mem_cons_of_mem _ (List.mem_cons_self ..))).symm
        · rcases List.mem_cons.mp hp with rfl | hp
          · exact (hI (D, baObj arr) (List.mem_cons_self ..)).symm
          · exact absurd hp (List.not_mem_nil)
      · intro h7 F7 N7
        have e1 : ((P : Int) + wd - 1 - (j : Int)).toNat = P + (wd.toNat - 1 - j) := by omega
        rw [e1, byte_back] at N7
        dsimp only
        k_steps
        refine ⟨h7, _, _, _, rfl, F7, N7, ?_, fun y h1 _ => ?_, _, rfl, hstep.1, hstep.2.1, hstep.2.2⟩
        · intro p hp
          rcases List.mem_cons.mp hp with rfl | hp
          · exact hI' _ (List.mem_cons_self ..)
          · rcases List.mem_cons.mp hp with rfl | hp
            · exact hI' (D, baObj arr₁) (List.mem_cons_of_mem _ (List.mem_cons_self ..))
            · exact hI' _ (List.mem_cons_of_mem _ (List.mem_cons_of_mem _ hp))
        · simp only [h1, if_false]
    · intro u' news₂ h5 tk5 hJ' F5 N5
      obtain ⟨arr₁, rfl, hasz₁, harr₁, harr₂⟩ := hJ'
      dsimp only
      k_steps
      refine ⟨h5, _, _, _, rfl, F5, N5, fun p hp => ?_, fun y h1 h2 => ?_, arr₁, rfl, hasz₁, swp_block harr₁ harr₂⟩
      · rcases List.mem_cons.mp hp with rfl | hp
        · exact hI (D, baObj arr) (List.mem_cons_self ..)
        · exact hI _ (List.mem_cons_of_mem _ hp)
      · simp only [h1, h2, if_false]
  · intro u news₁ h3 tk3 hJ F3 N3
    obtain ⟨arr, rfl, hasz, harr⟩ := hJ
    k_steps
    refine call_bytes_ba (N3 _ (List.mem_cons_self ..)).1 (by omega) ?_
    intro t9 k9
    rw [swp_all hasz hdvd harr]
    refine leaveK_ F3 N3 fun F8 N8 => hret _ _ _ F8 (fun p hp => N8 p (.tail _ hp))
end Mine
end
theorem Mine.off_A_turned : True := by
  w_top off
  trivial
section
open PySem PySem.W PyProof.Rows PySem.Calls
set_option Elab.async false
set_option maxRecDepth 100000
set_option maxHeartbeats 8000000
namespace Mine
theorem octs_size (x : Str) : (octs x).size = x.length := by simp [octs, Str.length]
def turnOf (x : Str) : Str := chrs (swp (octs x) x.length)
theorem turned_c (w : World) (mean : ExcName → Option Value) (mg mb : Str → Option Value) (x : Str) (tx : Tok)
   (hx : ∀ c ∈ x.cps.toList, c < 256) (hne : 0 < x.length) (hsz : x.length ≤ 100000) :
   RC 3 20 PySem.Challenge.rw_pe0048_01.row.prog w (hd1.heap_39 w.params) hd1.view_39 (looseW hd1.view_39 []) mean mg mb 91 [.str x tx] (fun t => .str (turnOf x) t) := by
  k_fill
  intro news dp un gd cn cs a ccd cl outer A₀ base h₀ L m s Q E B F X N T hcs hdp hun hret
  refine wpR_call ?_
  k_dflt (refine' codeR_def (binds := [(Str.ofString "text", .str x tx)]) B F X N T rfl rfl hcs ?k6 ?k7 ?k8 ?k9 ?kB ?_ ?c2 ?c3 ?c4 ?c5; (case k6 => k_is); (case k7 => k_is); (case k8 => ktr_room); (case k9 => exact BindsTo.of_eq rfl); (case c5 => decide); (case kB => exact locs rfl); (case c2 => exact rfl); (case c3 => exact rfl); (case c4 => exact rfl); k_whole)
  intro g' L' h' FG' F' N' B' X' T' hlt
  clear F N X T B
  refine R_stmt ?_
  k_steps
  refine method_encode ?_
  k_steps
  refine encode_K hx hne (by omega) ?_
  intro t1 k1
  have hos := octs_size x
  unfold turnOf at hret
  generalize octs x = b at hos hret ⊢
  dsimp only
  k_steps
  refine R_stmtR (R_assign (R_Call ?_))
  k_steps
  refine R_args_fn (R_args_cons (wpR_of_any ?_))
  k_steps
  refine R_args_cons (wpR_of_any ?_)
  k_steps
  refine R_args_nil ⟨isFn_K X' (by assumption) (by k_is), ?_⟩
  have hd : ((b.size : Int)).toNat ∣ b.size := by rw [Int.toNat_natCast]; exact Nat.dvd_refl _
  refine swap_c w mean mg mb b b.size t1 _ (by omega) hd (by omega) (by omega) news _ _ _ _ _ _ _ _ _ _ _ _ _ _ _ _ _ B' (by assumption) X' (by assumption) T' rfl (by ktr_room) (by ktr_units) ?_
  intro t2 h2 tk2 F2 N2
  rw [Int.toNat_natCast, hos]
  have hsw := swp_size b x.length
  have hback : swp (swp b x.length) x.length = b := swp_twice hos
  generalize swp b x.length = b2 at hret hsw hback ⊢
  dsimp only
  k_steps
  refine R_stmtR (R_if (R_or (wpR_of_any ?_)))
  k_steps
  refine call_type_bytes ?_
  k_steps
  refine R_or (R_cmp (R_Call ?_))
  k_steps
  refine R_args_fn (R_args_cons (wpR_of_any ?_))
  k_steps
  refine R_args_cons (wpR_of_any ?_)
  k_steps
  refine R_args_nil ⟨isFn_K X' (by assumption) (by k_is), ?_⟩
  have hd2 : ((b.size : Int)).toNat ∣ b2.size := by rw [Int.toNat_natCast, hsw]; exact Nat.dvd_refl _
  refine swap_c w mean mg mb b2 b.size t2 _ (by omega) hd2 (by omega) (by omega) news _ _ _ _ _ _ _ _ _ _ _ _ _ _ _ _ _ B' (by assumption) X' (by assumption) T' rfl (by ktr_room) (by ktr_units) ?_
  intro t3 h3 tk3 F3 N3
  rw [Int.toNat_natCast, hos, hback]
  dsimp only
  k_steps
  · exact absurd (by assumption) (by simp)
  refine R_or_nil ?_
  simp only [Bool.false_eq_true, if_false]
  refine wpR_pure ?_
  refine R_stmt ?_
  k_steps
  refine decode_K (by omega) (by omega) ?_
  intro t4 k4
  exact leaveK_ F3 N3 fun F8 N8 => hret _ _ _ F8 N8
end Mine
end
theorem Mine.off_A_p257 : True := by
  w_top off
  trivial
section
open PySem PySem.W PyProof.Rows PySem.Calls
set_option Elab.async false
set_option maxRecDepth 100000
set_option maxHeartbeats 8000000
namespace Mine
theorem p257_c (w : World) (mean : ExcName → Option Value) (mg mb : Str → Option Value) (news : List (Addr × Obj)) (x : Str) (tx : Tok) (l : List Nat)
   (hx : x.cps.toList = 50 :: 53 :: 55 :: 32 :: 34 :: l) (hsz : x.length ≤ 100000) :
   CbClaim PySem.Challenge.rw_pe0048_01.row.prog w (hd1.heap_39 w.params) hd1.view_39 (looseW hd1.view_39 []) mean mg mb 65 news [] True [.str x tx] (fun t => .str ⟨(unq l).toArray⟩ t) := by
  k_fill
  unfold CbClaim
  dsimp only [CbLists, CbRet]
  intro dp un gd cn cs a ccd cl outer A₀ base h₀ L m s Q E B F X N T hcs _ hdp hun hret
  refine wpAny_call ?_
  k_dflt (refine' code_def (binds := [(Str.ofString "resp", .str x tx)]) B F X N T rfl rfl hcs ?k6 ?k7 ?k8 ?k9 ?kB ?_ ?c2 ?c3 ?c4 ?c5; (case k6 => k_is); (case k7 => k_is); (case k8 => ktr_room); (case k9 => exact BindsTo.of_eq rfl); (case c5 => decide); (case kB => exact locs rfl); (case c2 => exact rfl); (case c3 => exact rfl); (case c4 => exact rfl); k_whole)
  intro g' L' h' FG' F' N' B' X' T'
  clear F N X T B
  have hlen : x.length = 5 + l.length := by
    have := congrArg List.length hx
    simp only [Array.length_toList, List.length_cons] at this
    show x.cps.size = _
    omega
  have e1 : (Txt.slice x none (some 3) != Str.ofString "257") = false := by
    rw [show (3 : Int) = ((3 : Nat) : Int) from rfl, slice_to (by rw [hx]; simp), hx]; simp only [List.take_succ_cons, List.take_zero]; decide +kernel
  have e2 : (Txt.slice x (some 3) (some 5) != Str.ofString " \"") = false := by
    rw [show (3 : Int) = ((3 : Nat) : Int) from rfl, show (5 : Int) = ((5 : Nat) : Int) from rfl, slice_ij (by omega) (by rw [hx]; simp), hx]; simp only [List.drop_succ_cons, List.drop_zero, List.take_succ_cons, List.take_zero]; decide +kernel
  refine execs_hold ?_
  k_steps
  refine execs_hold ?_
  k_steps
  refine execs_hold ?_
  k_steps
  refine execs_hold ?_
  k_steps
  refine execs_hold ?_
  k_steps
  clear e1 e2
  rename_i F1 N1
  refine execs_hold ?_
  refine While_inv2 (n₀ := l.length) (fun k m₁ news₁ => news₁ = news ∧ (∃ t, m₁ (Str.ofString "resp") = some (.str x t)) ∧ (∃ t, m₁ (Str.ofString "n") = some (.int x.length t)) ∧
      ∃ (d : Str) (i : Nat), (∃ t, m₁ (Str.ofString "dirname") = some (.str d t)) ∧ (∃ t, m₁ (Str.ofString "i") = some (.int ((5 + i : Nat) : Int) t)) ∧ i + k = l.length ∧ d.length ≤ i ∧ d.cps.toList ++ unq (l.drop i) = unq l) F1 N1 ?_ ?_ PassesOwn.leaving
  · refine ⟨rfl, ⟨_, rfl⟩, ⟨_, rfl⟩, Str.ofString "", 0, ⟨_, rfl⟩, ⟨_, rfl⟩, by omega, by decide, ?_⟩
    rfl
  · rintro k m₁ news₁ h₁ tk₁ F₁ N₁ ⟨rfl, ⟨t1, hm1⟩, ⟨t2, hm2⟩, d, i, ⟨t3, hm3⟩, ⟨t4, hm4⟩, hik, hdi, hd⟩
    have em : m₁ = fun y => if y = Str.ofString "dirname" then some (.str d t3) else if y = Str.ofString "i" then some (.int ((5 + i : Nat) : Int) t4) else if y = Str.ofString "n" then some (.int x.length t2) else if y = Str.ofString "resp" then some (.str x t1) else m₁ y := by
      funext y
      split
      · rename_i e; rw [e]; exact hm3
      split
      · rename_i e; rw [e]; exact hm4
      split
      · rename_i e; rw [e]; exact hm2
      split
      · rename_i e; rw [e]; exact hm1
      rfl
    rw [em] at F₁
    clear F1 N1 em hm1 hm2 hm3 hm4
    by_cases hi : i < l.length
    · obtain ⟨c, hc⟩ : ∃ c, l[i]? = some c := ⟨l[i], List.getElem?_eq_getElem hi⟩
      have hit : Txt.item x ((5 + i : Nat) : Int) = ⟨#[c]⟩ := item_at (p := [50, 53, 55, 32, 34]) hx hc
      have hdr : l.drop i = c :: l.drop (i + 1) := by
        rw [List.drop_eq_getElem_cons hi]
        rw [List.getElem?_eq_getElem hi] at hc
        rw [Option.some.inj hc]
      have fin : unq (l.drop i) = [] → d = ⟨(unq l).toArray⟩ := by
        intro h0
        rw [h0, List.append_nil] at hd
        exact Str.ext' (Array.ext' (by rw [hd]))
      k_steps
      all_goals (rw [hit] at *)
      · have hq : c = 34 := quote_eq.mp (by assumption)
        have hn : (x.length : Int) ≤ ((5 + i : Nat) : Int) + 1 := by assumption
        have hd0 := fin (by rw [hdr, hq, List.drop_eq_nil_of_le (by omega)]; exact unq_last)
        subst hd0
        show wpAny _ _ (execs [_] _) _ _ _
        k_steps
        exact leaveK_ (L' := L') (by assumption) (by assumption) fun F8 N8 => hret _ _ _ F8 N8
      · have hq : c = 34 := quote_eq.mp (by assumption)
        have hn : ¬ (x.length : Int) ≤ ((5 + i : Nat) : Int) + 1 := by assumption
        have hne : (Txt.item x (((5 + i : Nat) : Int) + 1) != Str.ofString "\"") = true := by assumption
        obtain ⟨c', hc'⟩ : ∃ c', l[i + 1]? = some c' := ⟨l[i + 1], List.getElem?_eq_getElem (by omega)⟩
        have hit' : Txt.item x (((5 + i : Nat) : Int) + 1) = ⟨#[c']⟩ := item_at (p := [50, 53, 55, 32, 34]) (i := i + 1) hx hc'
        rw [hit', quote_ne] at hne
        have hd0 := fin (by
          rw [hdr, hq, List.drop_eq_getElem_cons (show i + 1 < l.length by omega)]
          rw [List.getElem?_eq_getElem (show i + 1 < l.length by omega)] at hc'
          rw [Option.some.inj hc']
          exact unq_end _ hne)
        subst hd0
        show wpAny _ _ (execs [_] _) _ _ _
        k_steps
        exact leaveK_ (L' := L') (by assumption) (by assumption) fun F8 N8 => hret _ _ _ F8 N8
      · have hq : c = 34 := quote_eq.mp (by assumption)
        have hn : ¬ (x.length : Int) ≤ ((5 + i : Nat) : Int) + 1 := by assumption
        have hne : (Txt.item x (((5 + i : Nat) : Int) + 1) != Str.ofString "\"") = false := by assumption
        obtain ⟨c', hc'⟩ : ∃ c', l[i + 1]? = some c' := ⟨l[i + 1], List.getElem?_eq_getElem (by omega)⟩
        have hit' : Txt.item x (((5 + i : Nat) : Int) + 1) = ⟨#[c']⟩ := item_at (p := [50, 53, 55, 32, 34]) (i := i + 1) hx hc'
        have he : c' = 34 := by
          rw [hit'] at hne
          by_cases h9 : c' = 34
          · exact h9
          · rw [quote_ne.mpr h9] at hne; cases hne
        have hk2 : i + 2 ≤ l.length := by omega
        refine ⟨_, _, _, _, k - 2, rfl, by assumption, by assumption, by omega, rfl, ⟨_, rfl⟩, ⟨_, rfl⟩, d ++ ⟨#[c]⟩, i + 2, ⟨_, rfl⟩, ⟨_, rfl⟩, by omega, ?_, ?_⟩
        · rw [Str.length_append]; show d.length + 1 ≤ i + 2; omega
        · rw [← hd, hdr, hq, List.drop_eq_getElem_cons (show i + 1 < l.length by omega)]
          rw [List.getElem?_eq_getElem (show i + 1 < l.length by omega)] at hc'
          rw [Option.some.inj hc', he, unq_two]
          show (d.cps ++ #[34]).toList ++ _ = _
          simp
      · have hq : ((⟨#[c]⟩ : Str) == Str.ofString "\"") = false := by assumption
        have hq' : c ≠ 34 := fun h9 => by rw [quote_eq.mpr h9] at hq; cases hq
        refine ⟨_, _, _, _, k - 1, rfl, by assumption, by assumption, by omega, rfl, ⟨_, rfl⟩, ⟨_, rfl⟩, d ++ ⟨#[c]⟩, i + 1, ⟨_, rfl⟩, ⟨_, rfl⟩, by omega, ?_, ?_⟩
        · rw [Str.length_append]; show d.length + 1 ≤ i + 1; omega
        · rw [← hd, hdr, unq_plain _ hq']
          show (d.cps ++ #[c]).toList ++ _ = _
          simp
    · k_steps
      have hd0 : d = ⟨(unq l).toArray⟩ := by
        rw [List.drop_eq_nil_of_le (by omega)] at hd
        exact Str.ext' (Array.ext' (by rw [← hd]; simp [unq]))
      subst hd0
      show wpAny _ _ (execs [_] _) _ _ _
      k_steps
      exact leaveK_ (L' := L') (by assumption) (by assumption) fun F8 N8 => hret _ _ _ F8 N8
end Mine
end
theorem Mine.off_OwnStr : True := by
  w_top off
  trivial
section
open PySem PySem.W PyProof.Rows PySem.Calls PySem.Spec
set_option maxRecDepth 100000
namespace Mine
section
variable {prog : Program} {w : World} {A : Around} {E : Value → Shared → Prop} {s : Shared} {K : Frag} {e C t : Addr} {x : Str} {tx : Tok} {h₀ : Heap} {L : Addr} {news : List (Addr × Obj)}

theorem Got.exc {h : Heap} {cls : Value} {vs : List Value} (N : News h₀ L h news) (G : Got news e t cls vs) : (∃ o ws, h.get? e = some o ∧ o.cls = cls ∧ o.data = .fields ws ∧ ws[0]? = some (.ref t)) ∧ h.TupAt t vs := by
  obtain ⟨oe, ot, ws, nt, h1, h2, hc, hd, h0, htc, htd⟩ := G
  exact ⟨⟨oe, ws, N.get h1, hc, hd, h0⟩, ⟨ot, nt, N.get h2, htc, htd⟩⟩
theorem own_args {M : Model} {items : List Value} {cls : Value} {Q : Value × List Value → Shared → Prop} (x : ∃ o ws, s.heap.get? e = some o ∧ o.cls = cls ∧ o.data = .fields ws ∧ ws[0]? = some (.ref t)) (ht : s.heap.TupAt t items) (hq : Q (.ref t, items) s) :
    wpAny M A (Builtin.BaseException.bexcArgs (.ref e)) Q E s := by
  obtain ⟨o, vs, ho, _, hd, h0⟩ := x
  obtain ⟨ot, k, hto, _, htd⟩ := ht
  unfold Builtin.BaseException.bexcArgs
  refine wpAny_bind (wpAny_field ho hd h0 (wpAny_bind (wpAny_seqItems hto htd ?_)))
  have : items.toArray.toList = items := by simp
  show wpAny M A (pure (Value.ref t, items.toArray.toList)) Q E s
  rw [this]; exact wpAny_pure hq
theorem own_str_entry {cls : Value} {Q : Fin → Shared → Prop} (y : ∃ o ws, s.heap.get? e = some o ∧ o.cls = cls ∧ o.data = .fields ws ∧ ws[0]? = some (.ref t)) (ht : s.heap.TupAt t [.str x tx]) (hq : Q (.done (.ret (.str x tx))) s) :
    wpAny (model prog w) A (Builtin.«BaseException.__str__» ⟨[.ref e], []⟩) Q E s := by
  unfold Builtin.«BaseException.__str__»
  repeat (first | with_reducible refine own_args y ht ?_ | wp_step)
  exact hq
theorem own_str_call {Q : Value → Shared → Prop} (y : ∃ o ws, s.heap.get? e = some o ∧ o.cls = .ref C ∧ o.data = .fields ws ∧ ws[0]? = some (.ref t)) (ht : s.heap.TupAt t [.str x tx])
    (X : K.In s.heap) (hm : mroIn K C (.type "BaseException") = some true) (hq : Q (.str x tx) s) : wpAny (model prog w) A (call (.builtin "BaseException.__str__") [.ref e]) Q E s := by
  have y' := y
  obtain ⟨o, ws, ho, hc, _, _⟩ := y'
  have LT : Looks (model prog w) s.heap (typeOf (.ref e)) (.ref C) := hc ▸ (Looks.ld ho).andThen .now
  refine wpAny_call (codeAny_call_builtin PySem.F.excStr_Exception.str.plain PySem.F.entry_bexc_str (check_slot (i := "BaseException.__str__") (owner := "BaseException") (n := "__str__") (by decide +kernel) (by decide +kernel) (LT.andThen (looks_mroIn X hm)) (PySem.F.args_bexc_str _) ?_))
  exact own_str_entry y ht hq
theorem own_special {M : Model} {name : Str} {id : String} {args : List Value} {ox : Obj} {Q : Option Value → Shared → Prop} (X : K.In s.heap) (ho : s.heap.get? e = some ox) (hc : ox.cls = .ref C) (hs : findIn K (.ref C) name = some (some (.builtin id)))
    (hb : ∀ self, bindSpecial (.builtin id) self = pure (.builtin id, [self])) (h : wpAny M A (call (.builtin id) (.ref e :: args)) (fun v => Q (some v)) E s) : wpAny M A (callSpecial? (.ref e) name args) Q E s := by
  have LT : Looks M s.heap (typeOf (.ref e)) (.ref C) := hc ▸ (Looks.ld ho).andThen .now
  exact wpAny_bind (wpAny_bind (LT.here ((looks_findIn X hs).here (wpAny_holding (wpAny_bind ((Looks.of_pure (hb _)).here (wpAny_bind (wpAny_mono h (fun _ _ z => wpAny_pure z) fun _ _ z => z))))))))
open Builtin Builtin.Str in
/-- str(e) of an object of an own class under BaseException that holds one text. -/
theorem own_str {Q : Value → Shared → Prop} (hu : A.in1.in1.units < cLine) (X : K.In s.heap) (N : News h₀ L s.heap news) (G : Got news e t (.ref C) [.str x tx]) (hs : findIn K (.ref C) "__str__" = some (some (.builtin "BaseException.__str__")))
    (hm : mroIn K C (.type "BaseException") = some true) (hq : Q (.str x tx) s) : wpAny (model prog w) A (call (.type "str") [.ref e]) Q E s := by
  obtain ⟨y, ht⟩ := Got.exc N G
  have y' := y
  obtain ⟨o, ws, ho, hc, _, _⟩ := y'
  refine callType_codes (T := "str") (Bi := Builtin.«object.__init__») (Q₁ := fun r s₁ => ∃ y u, r = .str y u ∧ Q r s₁) PySem.F.called_str (PySem.F.typeCall_str_1 _) PySem.F.entry_object_init ?_ ?_
  · refine codeAny_of_tree ?_
    show wpAny _ A.in1.in1 (do checkBuiltinCall "str.__new__" ⟨[.type "str", .ref e], []⟩; again (.builtin "str.__new__" ⟨[.type "str", .ref e], []⟩)) _ _ s
    refine wpAny_bind (wpAny_of_eq (PySem.F.newCall_str_1 _) (wpAny_pure ⟨plainId_quiet (by decide +kernel) _, codeAny_builtin PySem.F.entry_str_new ?_⟩))
    rw [Around.under_plainId (by decide +kernel) _]
    rw [str_new_tree]
    refine wpAny_bind (wpAny_pure ?_)
    refine wpAny_bind (wpAny_of_eq isSubtype_str_str ?_)
    have key : wpAny (model prog w) A.in1.in1 (PySem.Builtin.Str.strOf (.ref e)) (fun r s₁ => ∃ y u, r = .str y u ∧ Q r s₁) E s := by
      unfold PySem.Builtin.Str.strOf
      rw [show isExactStr (.ref e) = false from rfl]
      refine wpAny_bind (m := cRoomFor _ _) (wpAny_cRoomFor hu ?_)
      refine wpAny_bind (m := callSpecial? (.ref e) (Str.ofString "__str__")) (own_special X ho hc hs PySem.F.excStr_Exception.str.bind (own_str_call y ht X hm ?_))
      exact wpAny_pure ⟨_, _, rfl, hq⟩
    exact wpAny_bind (wpAny_mono key (fun r s₁ hr => wpAny_pure hr) fun _ _ y => y)
  · rintro obj s₁ ⟨y, u, rfl, hq⟩
    exact ⟨typeIs_str _ _ _, PySem.F.args_object_init_2 _ _, object_init_meets PySem.F.called_str.init.lookup PySem.F.called_str.made (by decide) prog w A.in1 _ s₁ ⟨typeIs_str _ _ _, rfl, hq⟩⟩
end
end Mine
end
theorem Mine.off_A_refused : True := by
  w_top off
  trivial
section
open PySem PySem.W PyProof.Rows PySem.Calls
set_option Elab.async false
set_option maxRecDepth 100000
set_option maxHeartbeats 8000000
namespace Mine
theorem refused_c (w : World) (mean : ExcName → Option Value) (mg mb : Str → Option Value) (x : Str) (tx : Tok)
   (e1 : (Txt.slice x none (some 3) != Str.ofString "229") = true) (hsz : x.length ≤ 100000)
   (news : List (Addr × Obj)) (cn : Str) (cs : Scope) (a : Addr) (ccd : Value) (h₀ : Heap) (L : Addr) (m : Str → Option Value) (s : Shared) (Q E : Value → Shared → Prop)
   : ∀ (B : Below callerA h₀ [] h₀) (F : Fr h₀ L s.heap m) (X : (hd1.heap_39 w.params).In h₀) (N : News h₀ L s.heap news) (T : Top hd1.view_39 (looseW hd1.view_39 []) mean mg mb h₀) (hcs : cs.kind = .function)
   (hret : ∀ (h' : Heap) (tk' : Nat), Fr h₀ L h' m → News h₀ L h' news → Q (.bool true) { s with heap := h', toks := tk' }),
   wpAny (model PySem.Challenge.rw_pe0048_01.row.prog w) (callerA.deeper (envOf cn cs L a ccd)) (call (.ref 98) [.str x tx]) Q E s := by
  k_fill
  intro B F X N T hcs hret
  refine wpAny_call ?_
  k_dflt (refine' code_defS0 (binds := [(Str.ofString "text", .str x tx)]) B F X N T rfl ?k6 ?k7 ?k8 ?k9 ?kB ?_ hcs ?c2 ?c3 ?c4 ?c5; (case k6 => k_is); (case k7 => k_is); (case k8 => k_room); (case k9 => exact BindsTo.of_eq rfl); (case c5 => decide); (case kB => exact locs rfl); (case c2 => exact rfl); (case c3 => exact rfl); (case c4 => exact rfl); k_whole)
  intro g' L' h' FG' F' N' B' X' T' D'
  k_steps
  rename Got _ _ _ _ _ => GG
  k_dflt (refine' own_str (K := hd1.heap_39 w.params) ?u ?X ?N GG ?f ?g ?_; (case N => assumption); (case u => k_units); (case X => k_in); (case f => k_is); (case g => k_is); k_whole)
  k_steps
  rename Fr h₀ L _ m => kF9
  rename News h₀ L _ (_ :: news) => kN9
  rw [beq_self_eq_true]
  exact hret _ _ kF9 fun q hq => kN9 q (List.mem_cons_of_mem _ hq)
end Mine
end
theorem Mine.off_A_name : True := by
  w_top off
  trivial
section
open PySem PySem.W PyProof.Rows PySem.Calls
set_option Elab.async false
set_option maxRecDepth 100000
set_option maxHeartbeats 8000000
namespace Mine
/-- what _law_name answers. -/
def nameOf (x : Int) : Str := Txt.join (Str.ofString "") ((List.range (x.fmod 5).toNat).map fun k => Txt.item (Str.ofString "\"a/é") (((x.fdiv 5).fdiv (4 ^ k)).fmod 4))
theorem name_c0 (w : World) (mean : ExcName → Option Value) (mg mb : Str → Option Value) (news : List (Addr × Obj)) (x : Int) (tx : Tok) (hm : x.fmod 5 = 0) :
   CbClaim PySem.Challenge.rw_pe0048_01.row.prog w (hd1.heap_39 w.params) hd1.view_39 (looseW hd1.view_39 []) mean mg mb 77 news [] True [.int x tx] (fun t => .str (nameOf x) t) := by
  k_fill
  unfold CbClaim
  dsimp only [CbLists, CbRet]
  intro dp un gd cn cs a ccd cl outer A₀ base h₀ L m s Q E B F X N T hcs _ hdp hun hret
  refine wpAny_call ?_
  k_dflt (refine' code_defC (binds := [(Str.ofString "x", .int x tx)]) B F X N T rfl rfl hcs ?k6 ?k7 ?k8 ?k9 ?kB ?kD ?_ ?c2 ?c3 ?c4; (case k6 => k_is); (case k7 => k_is); (case k8 => ktr_room); (case k9 => exact BindsTo.of_eq rfl); (case kB => exact rfl); (case kD => decide +kernel); (case c2 => exact rfl); (case c3 => exact rfl); (case c4 => exact rfl); k_whole)
  intro g' L' h' tk' cells' FG' F' N' Y' B' X' T' l1
  clear F N X T B
  (try k_lt l1); k_cells Y'; (try simp only [List.cons_append, List.nil_append] at N'); (try dsimp only)
  have hnm : nameOf x = Txt.join (Str.ofString "") [] := by unfold nameOf; rw [hm]; rfl
  rw [hnm] at hret
  clear hnm
  iterate 7 (first | walk1 | (dsimp only; walk1))
  k_dflt (refine LCg.ListComp_U (F₀ := by k_asm) (by with_unfolding_all rfl) (by decide) (by rfl) (by decide) (by rfl) ?_)
  iterate 8 (first | walk1 | (dsimp only; walk1))
  simp only [hm]
  iterate 2 (first | walk1 | (dsimp only; walk1))
  k_dflt (refine LCg.CompSrc.range (by rfl) (by k_asm) (by k_asm) (by assumption) (by first | decide | rfl) (by first | rfl | decide) (by first | size_fits | exact Nat.le_of_ble_eq_true rfl) ?_; intro g'; lcg_lit)
  k_steps
  exact leaveK_ (L' := L') (by assumption) (by assumption) fun F8 N8 => hret _ _ _ F8 fun q hq => N8 q (List.mem_cons_of_mem _ (List.mem_cons_of_mem _ hq))
theorem name_c1 (w : World) (mean : ExcName → Option Value) (mg mb : Str → Option Value) (news : List (Addr × Obj)) (x : Int) (tx : Tok) (hm : x.fmod 5 = 1) :
   CbClaim PySem.Challenge.rw_pe0048_01.row.prog w (hd1.heap_39 w.params) hd1.view_39 (looseW hd1.view_39 []) mean mg mb 77 news [] True [.int x tx] (fun t => .str (nameOf x) t) := by
  k_fill
  unfold CbClaim
  dsimp only [CbLists, CbRet]
  intro dp un gd cn cs a ccd cl outer A₀ base h₀ L m s Q E B F X N T hcs _ hdp hun hret
  refine wpAny_call ?_
  k_dflt (refine' code_defC (binds := [(Str.ofString "x", .int x tx)]) B F X N T rfl rfl hcs ?k6 ?k7 ?k8 ?k9 ?kB ?kD ?_ ?c2 ?c3 ?c4; (case k6 => k_is); (case k7 => k_is); (case k8 => ktr_room); (case k9 => exact BindsTo.of_eq rfl); (case kB => exact rfl); (case kD => decide +kernel); (case c2 => exact rfl); (case c3 => exact rfl); (case c4 => exact rfl); k_whole)
  intro g' L' h' tk' cells' FG' F' N' Y' B' X' T' l1
  clear F N X T B
  (try k_lt l1); k_cells Y'; (try simp only [List.cons_append, List.nil_append] at N'); (try dsimp only)
  have hnm : nameOf x = Txt.join (Str.ofString "") [Txt.item (Str.ofString "\"a/é") (((x.fdiv 5).fdiv (4 ^ (0 + (0 : Nat) : Int).toNat)).fmod 4)] := by unfold nameOf; rw [hm]; rfl
  rw [hnm] at hret
  clear hnm
  iterate 7 (first | walk1 | (dsimp only; walk1))
  k_dflt (refine LCg.ListComp_U (F₀ := by k_asm) (by with_unfolding_all rfl) (by decide) (by rfl) (by decide) (by rfl) ?_)
  iterate 8 (first | walk1 | (dsimp only; walk1))
  simp only [hm]
  iterate 2 (first | walk1 | (dsimp only; walk1))
  k_dflt (refine LCg.CompSrc.range (by rfl) (by k_asm) (by k_asm) (by assumption) (by first | decide | rfl) (by first | rfl | decide) (by first | size_fits | exact Nat.le_of_ble_eq_true rfl) ?_; intro g'; lcg_lit)
  k_steps
  refine LCg.CompEnd.intro (by assumption) (by assumption) _ (fun _ h => h) (by assumption) True.intro ?_
  k_steps
  exact leaveK_ (L' := L') (by assumption) (by assumption) fun F8 N8 => hret _ _ _ F8 fun q hq => N8 q (List.mem_cons_of_mem _ (List.mem_cons_of_mem _ hq))
theorem name_c2 (w : World) (mean : ExcName → Option Value) (mg mb : Str → Option Value) (news : List (Addr × Obj)) (x : Int) (tx : Tok) (hm : x.fmod 5 = 2) :
   CbClaim PySem.Challenge.rw_pe0048_01.row.prog w (hd1.heap_39 w.params) hd1.view_39 (looseW hd1.view_39 []) mean mg mb 77 news [] True [.int x tx] (fun t => .str (nameOf x) t) := by
  k_fill
  unfold CbClaim
  dsimp only [CbLists, CbRet]
  intro dp un gd cn cs a ccd cl outer A₀ base h₀ L m s Q E B F X N T hcs _ hdp hun hret
  refine wpAny_call ?_
  k_dflt (refine' code_defC (binds := [(Str.ofString "x", .int x tx)]) B F X N T rfl rfl hcs ?k6 ?k7 ?k8 ?k9 ?kB ?kD ?_ ?c2 ?c3 ?c4; (case k6 => k_is); (case k7 => k_is); (case k8 => ktr_room); (case k9 => exact BindsTo.of_eq rfl); (case kB => exact rfl); (case kD => decide +kernel); (case c2 => exact rfl); (case c3 => exact rfl); (case c4 => exact rfl); k_whole)
  intro g' L' h' tk' cells' FG' F' N' Y' B' X' T' l1
  clear F N X T B
  (try k_lt l1); k_cells Y'; (try simp only [List.cons_append, List.nil_append] at N'); (try dsimp only)
  have hnm : nameOf x = Txt.join (Str.ofString "") [Txt.item (Str.ofString "\"a/é") (((x.fdiv 5).fdiv (4 ^ (0 + (0 : Nat) : Int).toNat)).fmod 4), Txt.item (Str.ofString "\"a/é") (((x.fdiv 5).fdiv (4 ^ (0 + (1 : Nat) : Int).toNat)).fmod 4)] := by unfold nameOf; rw [hm]; rfl
  rw [hnm] at hret
  clear hnm
  iterate 7 (first | walk1 | (dsimp only; walk1))
  k_dflt (refine LCg.ListComp_U (F₀ := by k_asm) (by with_unfolding_all rfl) (by decide) (by rfl) (by decide) (by rfl) ?_)
  iterate 8 (first | walk1 | (dsimp only; walk1))
  simp only [hm]
  iterate 2 (first | walk1 | (dsimp only; walk1))
  k_dflt (refine LCg.CompSrc.range (by rfl) (by k_asm) (by k_asm) (by assumption) (by first | decide | rfl) (by first | rfl | decide) (by first | size_fits | exact Nat.le_of_ble_eq_true rfl) ?_; intro g'; lcg_lit)
  k_steps
  refine LCg.CompEnd.intro (by assumption) (by assumption) _ (fun _ h => h) (by assumption) True.intro ?_
  k_steps
  refine LCg.CompEnd.intro (by assumption) (by assumption) _ (fun _ h => h) (by assumption) True.intro ?_
  k_steps
  exact leaveK_ (L' := L') (by assumption) (by assumption) fun F8 N8 => hret _ _ _ F8 fun q hq => N8 q (List.mem_cons_of_mem _ (List.mem_cons_of_mem _ hq))
theorem name_c3 (w : World) (mean : ExcName → Option Value) (mg mb : Str → Option Value) (news : List (Addr × Obj)) (x : Int) (tx : Tok) (hm : x.fmod 5 = 3) :
   CbClaim PySem.Challenge.rw_pe0048_01.row.prog w (hd1.heap_39 w.params) hd1.view_39 (looseW hd1.view_39 []) mean mg mb 77 news [] True [.int x tx] (fun t => .str (nameOf x) t) := by
  k_fill
  unfold CbClaim
  dsimp only [CbLists, CbRet]
  intro dp un gd cn cs a ccd cl outer A₀ base h₀ L m s Q E B F X N T hcs _ hdp hun hret
  refine wpAny_call ?_
  k_dflt (refine' code_defC (binds := [(Str.ofString "x", .int x tx)]) B F X N T rfl rfl hcs ?k6 ?k7 ?k8 ?k9 ?kB ?kD ?_ ?c2 ?c3 ?c4; (case k6 => k_is); (case k7 => k_is); (case k8 => ktr_room); (case k9 => exact BindsTo.of_eq rfl); (case kB => exact rfl); (case kD => decide +kernel); (case c2 => exact rfl); (case c3 => exact rfl); (case c4 => exact rfl); k_whole)
  intro g' L' h' tk' cells' FG' F' N' Y' B' X' T' l1
  clear F N X T B
  (try k_lt l1); k_cells Y'; (try simp only [List.cons_append, List.nil_append] at N'); (try dsimp only)
  have hnm : nameOf x = Txt.join (Str.ofString "") [Txt.item (Str.ofString "\"a/é") (((x.fdiv 5).fdiv (4 ^ (0 + (0 : Nat) : Int).toNat)).fmod 4), Txt.item (Str.ofString "\"a/é") (((x.fdiv 5).fdiv (4 ^ (0 + (1 : Nat) : Int).toNat)).fmod 4), Txt.item (Str.ofString "\"a/é") (((x.fdiv 5).fdiv (4 ^ (0 + (2 : Nat) : Int).toNat)).fmod 4)] := by unfold nameOf; rw [hm]; rfl
  rw [hnm] at hret
  clear hnm
  iterate 7 (first | walk1 | (dsimp only; walk1))
  k_dflt (refine LCg.ListComp_U (F₀ := by k_asm) (by with_unfolding_all rfl) (by decide) (by rfl) (by decide) (by rfl) ?_)
  iterate 8 (first | walk1 | (dsimp only; walk1))
  simp only [hm]
  iterate 2 (first | walk1 | (dsimp only; walk1))
  k_dflt (refine LCg.CompSrc.range (by rfl) (by k_asm) (by k_asm) (by assumption) (by first | decide | rfl) (by first | rfl | decide) (by first | size_fits | exact Nat.le_of_ble_eq_true rfl) ?_; intro g'; lcg_lit)
  k_steps
  refine LCg.CompEnd.intro (by assumption) (by assumption) _ (fun _ h => h) (by assumption) True.intro ?_
  k_steps
  refine LCg.CompEnd.intro (by assumption) (by assumption) _ (fun _ h => h) (by assumption) True.intro ?_
  k_steps
  refine LCg.CompEnd.intro (by assumption) (by assumption) _ (fun _ h => h) (by assumption) True.intro ?_
  k_steps
  exact leaveK_ (L' := L') (by assumption) (by assumption) fun F8 N8 => hret _ _ _ F8 fun q hq => N8 q (List.mem_cons_of_mem _ (List.mem_cons_of_mem _ hq))
theorem name_c4 (w : World) (mean : ExcName → Option Value) (mg mb : Str → Option Value) (news : List (Addr × Obj)) (x : Int) (tx : Tok) (hm : x.fmod 5 = 4) :
   CbClaim PySem.Challenge.rw_pe0048_01.row.prog w (hd1.heap_39 w.params) hd1.view_39 (looseW hd1.view_39 []) mean mg mb 77 news [] True [.int x tx] (fun t => .str (nameOf x) t) := by
  k_fill
  unfold CbClaim
  dsimp only [CbLists, CbRet]
  intro dp un gd cn cs a ccd cl outer A₀ base h₀ L m s Q E B F X N T hcs _ hdp hun hret
  refine wpAny_call ?_
  k_dflt (refine' code_defC (binds := [(Str.ofString "x", .int x tx)]) B F X N T rfl rfl hcs ?k6 ?k7 ?k8 ?k9 ?kB ?kD ?_ ?c2 ?c3 ?c4; (case k6 => k_is); (case k7 => k_is); (case k8 => ktr_room); (case k9 => exact BindsTo.of_eq rfl); (case kB => exact rfl); (case kD => decide +kernel); (case c2 => exact rfl); (case c3 => exact rfl); (case c4 => exact rfl); k_whole)
  intro g' L' h' tk' cells' FG' F' N' Y' B' X' T' l1
  clear F N X T B
  (try k_lt l1); k_cells Y'; (try simp only [List.cons_append, List.nil_append] at N'); (try dsimp only)
  have hnm : nameOf x = Txt.join (Str.ofString "") [Txt.item (Str.ofString "\"a/é") (((x.fdiv 5).fdiv (4 ^ (0 + (0 : Nat) : Int).toNat)).fmod 4), Txt.item (Str.ofString "\"a/é") (((x.fdiv 5).fdiv (4 ^ (0 + (1 : Nat) : Int).toNat)).fmod 4), Txt.item (Str.ofString "\"a/é") (((x.fdiv 5).fdiv (4 ^ (0 + (2 : Nat) : Int).toNat)).fmod 4), Txt.item (Str.ofString "\"a/é") (((x.fdiv 5).fdiv (4 ^ (0 + (3 : Nat) : Int).toNat)).fmod 4)] := by unfold nameOf; rw [hm]; rfl
  rw [hnm] at hret
  clear hnm
  iterate 7 (first | walk1 | (dsimp only; walk1))
  k_dflt (refine LCg.ListComp_U (F₀ := by k_asm) (by with_unfolding_all rfl) (by decide) (by rfl) (by decide) (by rfl) ?_)
  iterate 8 (first | walk1 | (dsimp only; walk1))
  simp only [hm]
  iterate 2 (first | walk1 | (dsimp only; walk1))
  k_dflt (refine LCg.CompSrc.range (by rfl) (by k_asm) (by k_asm) (by assumption) (by first | decide | rfl) (by first | rfl | decide) (by first | size_fits | exact Nat.le_of_ble_eq_true rfl) ?_; intro g'; lcg_lit)
  k_steps
  refine LCg.CompEnd.intro (by assumption) (by assumption) _ (fun _ h => h) (by assumption) True.intro ?_
  k_steps
  refine LCg.CompEnd.intro (by assumption) (by assumption) _ (fun _ h => h) (by assumption) True.intro ?_
  k_steps
  refine LCg.CompEnd.intro (by assumption) (by assumption) _ (fun _ h => h) (by assumption) True.intro ?_
  k_steps
  refine LCg.CompEnd.intro (by assumption) (by assumption) _ (fun _ h => h) (by assumption) True.intro ?_
  k_steps
  exact leaveK_ (L' := L') (by assumption) (by assumption) fun F8 N8 => hret _ _ _ F8 fun q hq => N8 q (List.mem_cons_of_mem _ (List.mem_cons_of_mem _ hq))
theorem name_c (w : World) (mean : ExcName → Option Value) (mg mb : Str → Option Value) (news : List (Addr × Obj)) (x : Int) (tx : Tok) :
   CbClaim PySem.Challenge.rw_pe0048_01.row.prog w (hd1.heap_39 w.params) hd1.view_39 (looseW hd1.view_39 []) mean mg mb 77 news [] True [.int x tx] (fun t => .str (nameOf x) t) := by
  have h1 : 0 ≤ x.fmod 5 := Int.fmod_nonneg_of_pos x (by decide)
  have h2 : x.fmod 5 < 5 := Int.fmod_lt_of_pos x (by decide)
  rcases (by omega : x.fmod 5 = 0 ∨ x.fmod 5 = 1 ∨ x.fmod 5 = 2 ∨ x.fmod 5 = 3 ∨ x.fmod 5 = 4) with h | h | h | h | h
  · exact name_c0 w mean mg mb news x tx h
  · exact name_c1 w mean mg mb news x tx h
  · exact name_c2 w mean mg mb news x tx h
  · exact name_c3 w mean mg mb news x tx h
  · exact name_c4 w mean mg mb news x tx h
end Mine
end
theorem Mine.off_LawDef1 : True := by
  w_top off
  trivial
section
open PySem PySem.W PyProof.Rows
set_option maxRecDepth 100000
namespace Mine
def recOf {q : Program} {loose : List Str} {XP : (Str → Option Value) → Heap → Prop} {YP : World → Heap → Prop} {r : RowW} {d : DefRec} {kwd : List (Str × Expr)} {P : Prop} (_ : WalkR q loose XP YP r d kwd → P) : DefRec := d
/-- the law's def, read off the head's own type -/
def law1_d : DefRec := recOf hd1
end Mine
end
theorem Mine.off_L1a : True := by
  w_top off
  trivial
section
open PySem PySem.W PyProof.Rows PySem.Calls
set_option Elab.async false
set_option maxRecDepth 100000
set_option maxHeartbeats 8000000
namespace Mine
theorem four_ints {vs : List Value} {is : List Int} (h : IntsAre vs (List.take 4 is ++ List.drop ((List.take 4 is).length : Int).toNat [171, 38, 724, 0])) :
    ∃ n0 n1 n2 n3 t0 t1 t2 t3, vs = [.int n0 t0, .int n1 t1, .int n2 t2, .int n3 t3] := by
  have hl : (List.take 4 is ++ List.drop ((List.take 4 is).length : Int).toNat [171, 38, 724, 0]).length = 4 := by
    simp only [List.length_append, List.length_take, List.length_drop, List.length_cons, List.length_nil]
    omega
  generalize List.take 4 is ++ List.drop ((List.take 4 is).length : Int).toNat [171, 38, 724, 0] = l at h hl
  match l, hl, h with
  | [a, b, c, d], _, .cons _ t0 (.cons _ t1 (.cons _ t2 (.cons _ t3 .nil))) => exact ⟨a, b, c, d, t0, t1, t2, t3, rfl⟩
theorem stage1 (w : World) (mean : ExcName → Option Value) (mg mb : Str → Option Value) (h₀ : Heap) (L fa ax : Addr) (cd : Value) (vs : List Value) (is : List Int) (s : Shared) (Q : Flow → Shared → Prop) :
  ∀ (K0 : Below callerA h₀ [] h₀) (X : (hd1.heap_39 w.params).In h₀) (T : Top hd1.view_39 (looseW hd1.view_39 []) mean mg mb h₀)
  (F : Fr h₀ L s.heap (fun y => List.lookup y [(Str.ofString "script", Value.ref ax)].reverse)) (N : News h₀ L s.heap []) (hL : h₀.IsList ax vs.toArray) (hI : IntsAre vs is) (hn : ¬((63 : Nat) : Int) < (is.length : Int))
  (k : ∀ (D : Addr) (n0 n1 n2 n3 : Int) (t0 t1 t2 t3 : Tok) (h' : Heap) (tk : Nat), Fr h₀ L h' (fun y => if y = Str.ofString "numbers" then some (.ref D) else List.lookup y [(Str.ofString "script", Value.ref ax)].reverse) →
    News h₀ L h' [(D, W.listOf [.int n0 t0, .int n1 t1, .int n2 t2, .int n3 t3].toArray 0)] →
    wpR (model PySem.Challenge.rw_pe0048_01.row.prog w) (callerA.deeper (envOf law1_d.name law1_d.scope L fa cd)) (execs law1_d.body.tail (envOf law1_d.name law1_d.scope L fa cd)) Q (fun _ _ => False) { s with heap := h', toks := tk }),
  wpR (model PySem.Challenge.rw_pe0048_01.row.prog w) (callerA.deeper (envOf law1_d.name law1_d.scope L fa cd)) (execs law1_d.body (envOf law1_d.name law1_d.scope L fa cd)) Q (fun _ _ => False) s := by
  k_fill
  dsimp only [law1_d, recOf, List.tail_cons]
  intro K0 X T F N hL hI hn k
  refine R_stmt ?_
  generalize hE : (fun (_ : Value) (_ : Shared) => False) = E0 at k ⊢
  generalize hk : wpR (model PySem.Challenge.rw_pe0048_01.row.prog w) _ _ Q E0 = K9 at k ⊢
  k_steps
  rename Fr h₀ L _ (fun y => if y = Str.ofString "numbers" then _ else _) => F9
  rename News h₀ L _ _ => N9
  rename IntsAre _ (_ ++ _) => I9
  obtain ⟨n0, n1, n2, n3, t0, t1, t2, t3, rfl⟩ := four_ints I9
  exact k _ n0 n1 n2 n3 t0 t1 t2 t3 _ _ F9 (fun q hq => N9 q (by rw [List.mem_singleton] at hq; rw [hq]; exact List.Mem.head _))
end Mine
end
theorem Mine.off_L1b : True := by
  w_top off
  trivial
section
open PySem PySem.W PyProof.Rows PySem.Calls
set_option Elab.async false
set_option maxRecDepth 100000
set_option maxHeartbeats 8000000
namespace Mine
theorem stage2 (w : World) (mean : ExcName → Option Value) (mg mb : Str → Option Value) (h₀ : Heap) (L fa ax D : Addr) (cd : Value) (n0 n1 n2 n3 : Int) (t0 t1 t2 t3 : Tok) (s : Shared) (Q : Flow → Shared → Prop) :
  ∀ (K0 : Below callerA h₀ [] h₀) (X : (hd1.heap_39 w.params).In h₀) (T : Top hd1.view_39 (looseW hd1.view_39 []) mean mg mb h₀)
  (F : Fr h₀ L s.heap (fun y => if y = Str.ofString "numbers" then some (.ref D) else List.lookup y [(Str.ofString "script", Value.ref ax)].reverse))
  (N : News h₀ L s.heap [(D, W.listOf [.int n0 t0, .int n1 t1, .int n2 t2, .int n3 t3].toArray 0)])
  (k : ∀ (D' : Addr) (t0 t1 t2 t3 : Tok) (h' : Heap) (tk : Nat), Fr h₀ L h' (fun y => if y = Str.ofString "names" then some (.ref D') else if y = Str.ofString "numbers" then some (.ref D) else List.lookup y [(Str.ofString "script", Value.ref ax)].reverse) →
    News h₀ L h' [(D', LCg.lst [.str (nameOf n0) t0, .str (nameOf n1) t1, .str (nameOf n2) t2, .str (nameOf n3) t3])] →
    wpR (model PySem.Challenge.rw_pe0048_01.row.prog w) (callerA.deeper (envOf law1_d.name law1_d.scope L fa cd)) (execs law1_d.body.tail.tail (envOf law1_d.name law1_d.scope L fa cd)) Q (fun _ _ => False) { s with heap := h', toks := tk }),
  wpR (model PySem.Challenge.rw_pe0048_01.row.prog w) (callerA.deeper (envOf law1_d.name law1_d.scope L fa cd)) (execs law1_d.body.tail (envOf law1_d.name law1_d.scope L fa cd)) Q (fun _ _ => False) s := by
  k_fill
  dsimp only [law1_d, recOf, List.tail_cons]
  intro K0 X T F N k
  refine R_stmt ?_
  generalize hE : (fun (_ : Value) (_ : Shared) => False) = E0 at k ⊢
  generalize hk : wpR (model PySem.Challenge.rw_pe0048_01.row.prog w) _ _ Q E0 = K9 at k ⊢
  k_dflt (refine LCg.Assign_ListComp_U (F₀ := by k_asm) (by rfl) (by with_unfolding_all rfl) (by rfl) (by decide) (by rfl) (by decide) (by rfl) (by rfl) (by rfl) ?_)
  walk1
  k_dflt (refine LCg.CompSrc.ledger (by rfl) (by k_asm) (by k_asm) (by k_mem) (by first | size_fits | exact Nat.le_of_ble_eq_true rfl) ?_; intro g'; lcg_lit)
  iterate 9 (first | walk1 | (dsimp only; walk1))
  refine name_c w mean mg mb _ _ _ _ _ _ _ _ fa cd [] [] callerA h₀ h₀ L _ _ _ _ K0 (by assumption) X (by assumption) T rfl trivial (by decide) (by decide) ?_
  intro t h' tk' F N
  walk1
  iterate 9 (first | walk1 | (dsimp only; walk1))
  refine name_c w mean mg mb _ _ _ _ _ _ _ _ fa cd [] [] callerA h₀ h₀ L _ _ _ _ K0 (by assumption) X (by assumption) T rfl trivial (by decide) (by decide) ?_
  intro t h' tk' F N
  walk1
  iterate 9 (first | walk1 | (dsimp only; walk1))
  refine name_c w mean mg mb _ _ _ _ _ _ _ _ fa cd [] [] callerA h₀ h₀ L _ _ _ _ K0 (by assumption) X (by assumption) T rfl trivial (by decide) (by decide) ?_
  intro t h' tk' F N
  walk1
  iterate 9 (first | walk1 | (dsimp only; walk1))
  refine name_c w mean mg mb _ _ _ _ _ _ _ _ fa cd [] [] callerA h₀ h₀ L _ _ _ _ K0 (by assumption) X (by assumption) T rfl trivial (by decide) (by decide) ?_
  intro t h' tk' F N
  walk1
  k_steps
  rename Fr h₀ L _ (fun z => if z = Str.ofString "names" then _ else _) => F9
  rename News h₀ L _ (_ :: [_]) => N9
  exact k _ _ _ _ _ _ _ F9 (fun q hq => N9 q (by rw [List.mem_singleton] at hq; rw [hq]; exact List.Mem.head _))
end Mine
end
theorem Mine.off_L1c : True := by
  w_top off
  trivial
section
open PySem PySem.W PyProof.Rows PySem.Calls
set_option Elab.async false
set_option maxRecDepth 100000
set_option maxHeartbeats 8000000
namespace Mine
theorem stage3 (w : World) (mean : ExcName → Option Value) (mg mb : Str → Option Value) (h₀ : Heap) (L fa D : Addr) (cd : Value) (a b c d : Str) (t0 t1 t2 t3 : Tok) (s : Shared) (Q : Flow → Shared → Prop) (m : Str → Option Value)
  (ha : a.length ≤ 1000) (hb : b.length ≤ 1000) (hc : c.length ≤ 1000) (hd : d.length ≤ 1000) :
  ∀ (K0 : Below callerA h₀ [] h₀) (X : (hd1.heap_39 w.params).In h₀) (T : Top hd1.view_39 (looseW hd1.view_39 []) mean mg mb h₀)
  (F : Fr h₀ L s.heap (fun y => if y = Str.ofString "names" then some (.ref D) else m y))
  (N : News h₀ L s.heap [(D, LCg.lst [.str a t0, .str b t1, .str c t2, .str d t3])])
  (k : ∀ (D' : Addr) (t4 t5 : Tok) (h' : Heap) (tk : Nat), Fr h₀ L h' (fun y => if y = Str.ofString "halves" then some (.ref D') else if y = Str.ofString "names" then some (.ref D) else m y) →
    News h₀ L h' [(D', W.listOf #[.str (bothOf a b) t4, .str (bothOf c d) t5] 0), (D, LCg.lst [.str a t0, .str b t1, .str c t2, .str d t3])] → D < D' →
    wpR (model PySem.Challenge.rw_pe0048_01.row.prog w) (callerA.deeper (envOf law1_d.name law1_d.scope L fa cd)) (execs law1_d.body.tail.tail.tail (envOf law1_d.name law1_d.scope L fa cd)) Q (fun _ _ => False) { s with heap := h', toks := tk }),
  wpR (model PySem.Challenge.rw_pe0048_01.row.prog w) (callerA.deeper (envOf law1_d.name law1_d.scope L fa cd)) (execs law1_d.body.tail.tail (envOf law1_d.name law1_d.scope L fa cd)) Q (fun _ _ => False) s := by
  k_fill
  dsimp only [law1_d, recOf, List.tail_cons]
  intro K0 X T F N k
  refine R_stmt ?_
  generalize hE : (fun (_ : Value) (_ : Shared) => False) = E0 at k ⊢
  generalize hk : wpR (model PySem.Challenge.rw_pe0048_01.row.prog w) _ _ Q E0 = K9 at k ⊢
  iterate 18 (first | walk1 | (dsimp only; walk1))
  refine both_c w mean mg mb _ a b _ _ _ _ _ _ _ fa cd [] [] callerA h₀ h₀ L _ _ _ _ K0 (by assumption) X (by assumption) T rfl ⟨ha, hb⟩ (by decide) (by decide) ?_
  intro t4 h4 tk4 F4 N4
  iterate 16 (first | walk1 | (dsimp only; walk1))
  refine both_c w mean mg mb _ c d _ _ _ _ _ _ _ fa cd [] [] callerA h₀ h₀ L _ _ _ _ K0 (by assumption) X (by assumption) T rfl ⟨hc, hd⟩ (by decide) (by decide) ?_
  intro t5 h5 tk5 F5 N5
  k_steps
  rename Fr h₀ L _ (fun y => if y = Str.ofString "halves" then _ else _) => F9
  rename News h₀ L _ (_ :: [_]) => N9
  rename D < _ => l9
  exact k _ _ _ _ _ F9 N9 l9
theorem stage4 (w : World) (mean : ExcName → Option Value) (mg mb : Str → Option Value) (h₀ : Heap) (L fa D H : Addr) (cd : Value) (p q : Str) (t0 t1 : Tok) (s : Shared) (Q : Flow → Shared → Prop) (m : Str → Option Value) (on : Obj)
  (hp : p.length ≤ 1000) (hq : q.length ≤ 1000) :
  ∀ (K0 : Below callerA h₀ [] h₀) (X : (hd1.heap_39 w.params).In h₀) (T : Top hd1.view_39 (looseW hd1.view_39 []) mean mg mb h₀)
  (F : Fr h₀ L s.heap (fun y => if y = Str.ofString "halves" then some (.ref H) else m y))
  (N : News h₀ L s.heap [(H, W.listOf #[.str p t0, .str q t1] 0), (D, on)]) (hlt : D < H)
  (k : ∀ (t2 : Tok) (h' : Heap) (tk : Nat), Fr h₀ L h' (fun y => if y = Str.ofString "whole" then some (.str (bothOf p q) t2) else if y = Str.ofString "halves" then some (.ref H) else m y) →
    News h₀ L h' [(H, W.listOf #[.str p t0, .str q t1] 0), (D, on)] →
    wpR (model PySem.Challenge.rw_pe0048_01.row.prog w) (callerA.deeper (envOf law1_d.name law1_d.scope L fa cd)) (execs law1_d.body.tail.tail.tail.tail (envOf law1_d.name law1_d.scope L fa cd)) Q (fun _ _ => False) { s with heap := h', toks := tk }),
  wpR (model PySem.Challenge.rw_pe0048_01.row.prog w) (callerA.deeper (envOf law1_d.name law1_d.scope L fa cd)) (execs law1_d.body.tail.tail.tail (envOf law1_d.name law1_d.scope L fa cd)) Q (fun _ _ => False) s := by
  k_fill
  dsimp only [law1_d, recOf, List.tail_cons]
  intro K0 X T F N hlt k
  refine R_stmt ?_
  generalize hE : (fun (_ : Value) (_ : Shared) => False) = E0 at k ⊢
  generalize hk : wpR (model PySem.Challenge.rw_pe0048_01.row.prog w) _ _ Q E0 = K9 at k ⊢
  iterate 16 (first | walk1 | (dsimp only; walk1))
  refine both_c w mean mg mb _ p q _ _ _ _ _ _ _ fa cd [] [] callerA h₀ h₀ L _ _ _ _ K0 (by assumption) X (by assumption) T rfl ⟨hp, hq⟩ (by decide) (by decide) ?_
  intro t4 h4 tk4 F4 N4
  k_steps
  rename Fr h₀ L _ (fun y => if y = Str.ofString "whole" then _ else _) => F9
  rename News h₀ L _ (_ :: [_]) => N9
  exact k _ _ _ F9 N9
end Mine
end
theorem Mine.off_L1d : True := by
  w_top off
  trivial
section
open PySem PySem.W PyProof.Rows PySem.Calls
set_option Elab.async false
set_option maxRecDepth 100000
set_option maxHeartbeats 8000000
namespace Mine
theorem stage5 (w : World) (mean : ExcName → Option Value) (mg mb : Str → Option Value) (h₀ : Heap) (L fa D H : Addr) (cd : Value) (x : Str) (l l2 : List Nat) (tx : Tok) (s : Shared) (Q : Flow → Shared → Prop) (m : Str → Option Value) (on oh : Obj)
  (hx : x.cps.toList = 50 :: 53 :: 55 :: 32 :: 34 :: l) (hy : (turnOf x).cps.toList = 50 :: 53 :: 55 :: 32 :: 34 :: l2) (h256 : ∀ c ∈ x.cps.toList, c < 256) (hne : 0 < x.length) (hsz : x.length ≤ 100000) (hsy : (turnOf x).length ≤ 100000) :
  ∀ (K0 : Below callerA h₀ [] h₀) (X : (hd1.heap_39 w.params).In h₀) (T : Top hd1.view_39 (looseW hd1.view_39 []) mean mg mb h₀)
  (F : Fr h₀ L s.heap (fun y => if y = Str.ofString "whole" then some (.str x tx) else m y))
  (N : News h₀ L s.heap [(H, oh), (D, on)]) (hlt : D < H)
  (k : ∀ (R : Addr) (t1 t2 : Tok) (h' : Heap) (tk : Nat), Fr h₀ L h' (fun y => if y = Str.ofString "told" then some (.ref R) else if y = Str.ofString "whole" then some (.str x tx) else m y) →
    News h₀ L h' [(R, W.listOf #[.str ⟨(unq l).toArray⟩ t1, .str ⟨(unq l2).toArray⟩ t2] 0), (H, oh), (D, on)] → H < R → D < R →
    wpR (model PySem.Challenge.rw_pe0048_01.row.prog w) (callerA.deeper (envOf law1_d.name law1_d.scope L fa cd)) (execs law1_d.body.tail.tail.tail.tail.tail (envOf law1_d.name law1_d.scope L fa cd)) Q (fun _ _ => False) { s with heap := h', toks := tk }),
  wpR (model PySem.Challenge.rw_pe0048_01.row.prog w) (callerA.deeper (envOf law1_d.name law1_d.scope L fa cd)) (execs law1_d.body.tail.tail.tail.tail (envOf law1_d.name law1_d.scope L fa cd)) Q (fun _ _ => False) s := by
  k_fill
  dsimp only [law1_d, recOf, List.tail_cons]
  intro K0 X T F N hlt k
  refine R_stmtR (R_assign (R_list (R_args_cons (wpR_of_any ?_))))
  generalize hE : (fun (_ : Value) (_ : Shared) => False) = E0 at k ⊢
  iterate 7 (first | walk1 | (dsimp only; walk1))
  refine p257_c w mean mg mb _ x _ l hx hsz _ _ _ _ _ fa cd [] [] callerA h₀ h₀ L _ _ _ _ K0 (by assumption) X (by assumption) T rfl trivial (by decide) (by decide) ?_
  intro t1 h1 tk1 F1 N1
  refine R_args_cons (R_Call ?_)
  k_steps
  refine R_args_fn (R_args_cons (R_Call ?_))
  k_steps
  refine R_args_fn (R_args_cons (wpR_of_any ?_))
  k_steps
  refine R_args_nil ⟨isFn_K X (by assumption) (by k_is), ?_⟩
  refine turned_c w mean mg mb x _ h256 hne hsz _ _ _ _ _ _ fa cd [] [] callerA h₀ h₀ L _ _ _ _ K0 (by assumption) X (by assumption) T rfl (by decide) (by decide) ?_
  intro t2 h2 tk2 F2 N2
  refine R_args_nil ⟨isFn_K X (by assumption) (by k_is), ?_⟩
  refine wpR_of_any ?_
  refine p257_c w mean mg mb _ (turnOf x) _ l2 hy hsy _ _ _ _ _ fa cd [] [] callerA h₀ h₀ L _ _ _ _ K0 (by assumption) X (by assumption) T rfl trivial (by decide) (by decide) ?_
  intro t3 h3 tk3 F3 N3
  refine R_args_nil ?_
  dsimp only
  k_steps
  rename Fr h₀ L _ (fun y => if y = Str.ofString "told" then _ else _) => F9
  rename News h₀ L _ (_ :: _ :: [_]) => N9
  rename _ < _ ∧ _ < _ => l9
  exact k _ _ _ _ _ F9 N9 l9.1 l9.2
end Mine
end
theorem Mine.off_RComp : True := by
  w_top off
  trivial
section
open PySem PySem.W PyProof.Rows PySem.Calls PySem.Spec PyProof.Rows.LCg PyProof.Rows.LCt
set_option Elab.async false
set_option maxRecDepth 100000
namespace Mine
section
variable {M : Model} {A : Around} {E : Value → Shared → Prop} {s : Shared} {env : Env}
/-- a comprehension whose first iterable this layer walks -/
theorem R_comp {e : Expr} {scope : Scope} {pos : Pos} {newAcc first : Sem Value} {b : Bool} {use : Option (Value → Sem Unit)} {Q : Value → Shared → Prop}
    (h : wpR M A first (fun x s₁ => wpR M A (comprehension e scope env pos newAcc b (pure x) use) Q E s₁) E s) : wpR M A (comprehension e scope env pos newAcc b first use) Q E s := by
  unfold comprehension at h ⊢
  exact wpR_bind h
end
section
variable {prog : Program} {w : World} {A : Around} {E : Value → Shared → Prop} {s : Shared} {h₀ : Heap} {L : Addr} {m : Str → Option Value} {env : Env}
theorem ListComp_TR {ct elt iter : Expr} {x : Str} {px : Pos} {scope : Scope} {cl : List (Str × Addr)} {pos : Pos} {Q : Value → Shared → Prop} (F₀ : Fr h₀ L s.heap m)
    (hclos : closureFor scope env = pure cl) (hcell : ∀ y ∈ scope.names, y.2 ≠ .cell) (hkind : scope.kind = .function)
    (hnames : ∀ y ∈ scope.names, y.2 = .local → scope.names.lookup y.1 = some .local) (hx : scope.names.lookup x = some .local)
    (h : wpR (model prog w) A (eval iter env) (SrcLT prog w A h₀ L m env ct elt x scope cl (fun s₂ => FinE h₀ L m s₂ Q)) E s)
    (hs : ∀ x, foldedSetIterable iter env x = pure x := by intro _; rfl) :
    wpR (model prog w) A (eval (.ListComp elt [⟨.Name x px, iter, [ct], 0⟩] scope pos) env) Q E s := by
  rw [eval_ListComp]
  refine R_comp (wpR_mono h (fun xv s₁ h₁ => wpR_of_any ?_) fun _ _ e => e)
  refine wpAny_comprehension_free (use := none) rfl hs hclos hkind hnames (wpAny_pure ?_)
  obtain ⟨ax, its, news, rfl, hh, F, N, S, hsz, R⟩ := h₁
  have hl := S.list F.keep N
  have hlt : ax < s₁.heap.objs.size := by obtain ⟨_, e, _⟩ := hl; exact Heap.lt_size e
  refine wpAny_pyIter_list hl ?_
  have up : ∀ b o, s₁.heap.get? b = some o → (s₁.heap.push { cls := .type "list_iterator", data := .fields #[.ref ax, .int 0 0] }).get? b = some o := fun b o e => Heap.get?_push_of_some _ e
  refine block_T (Walks.list hh s₁.heap.objs.size ax (Nat.ne_of_lt hlt) its) hsz (fun i h st => by obtain ⟨o, e, _⟩ := st.1; exact ⟨o, e⟩) list_st hcell hkind hx ⟨⟨_, Heap.get?_push_size _ rfl, rfl, rfl⟩, hl.push _⟩ (fun b hb => ?_)
    (F.keeps up) (N.grown up) (Nat.ne_of_lt F.ns.lt) (next_is_new F) (fun p hp => Nat.ne_of_lt (Heap.lt_size (N p hp).1)) S (R _ ⟨_, rfl⟩) ?_
  · show b < (s₁.heap.push _).objs.size
    rw [Heap.size_push]
    rcases List.mem_cons.mp hb with rfl | hb
    · exact Nat.lt_succ_self _
    · rw [List.mem_singleton.mp hb]; exact Nat.lt_succ_of_lt hlt
  · intro D C h tk m' ys news' F' N' o1 hn hC₀ hD₀ hCL hDL hCD offC fin
    refine ⟨m', hn, fun h'' hs'' => fin D h'' tk (F'.change hs'' hCL hC₀) (fun p hp => ?_) o1⟩
    refine ⟨hs''.extBut _ _ ?_ (N' p hp).1, (N' p hp).2⟩
    rcases List.mem_cons.mp hp with rfl | hp
    · exact Ne.symm hCD
    · exact offC p hp
theorem srcLT_led {ct elt : Expr} {x : Str} {scope : Scope} {cl : List (Str × Addr)} {Fin : Shared → List Value → List (Addr × Obj) → Prop} {ax : Addr} {its : Array Value} {k n : Nat} {news : List (Addr × Obj)} {s₁ : Shared}
    (hh : A.handled = none) (F : Fr h₀ L s₁.heap m) (N : News h₀ L s₁.heap news) (hm : (ax, ({ cls := .type "list", data := .seq its k } : Obj)) ∈ news) (hn : its.size = n) (hsz : n ≤ sizeLine)
    (h : ∀ g, CompRestT prog w A h₀ L m env ct elt x scope cl { s₁ with heap := g } (SrcAt h₀ ax its) (fun i v => its[i]? = some v) (Fin { s₁ with heap := g }) n 0 [] news) :
    SrcLT prog w A h₀ L m env ct elt x scope cl Fin (.ref ax) s₁ := ⟨ax, its, news, rfl, hh, F, N, .inr ⟨_, hm, rfl, _, rfl⟩, hn ▸ hsz, fun _ ⟨g, e⟩ => e ▸ hn ▸ h g⟩
end
end Mine
end
theorem Mine.off_L1e : True := by
  w_top off
  trivial
section
open PySem PySem.W PyProof.Rows PySem.Calls
set_option Elab.async false
set_option maxRecDepth 100000
set_option maxHeartbeats 8000000
namespace Mine
theorem stage6 (w : World) (mean : ExcName → Option Value) (mg mb : Str → Option Value) (h₀ : Heap) (L fa D H R : Addr) (cd : Value) (x p q : Str) (tx t0 t1 t2 t3 : Tok) (s : Shared) (Q : Flow → Shared → Prop) (m : Str → Option Value) (on : Obj)
  (h256 : ∀ c ∈ x.cps.toList, c < 256) (hne : 0 < x.length) (hsz : x.length ≤ 100000) (hsy : (turnOf x).length ≤ 100000) (hshape : SeqAt.shaped (PyData.list [PyData.str p, PyData.str q]) = true) (hsp : p.length ≤ 100000) (hsq : q.length ≤ 100000)
  (rx : (Txt.slice x none (some 3) != Str.ofString "229") = true) (ry : (Txt.slice (turnOf x) none (some 3) != Str.ofString "229") = true) (rp : (Txt.slice p none (some 3) != Str.ofString "229") = true) (rq : (Txt.slice q none (some 3) != Str.ofString "229") = true) :
  ∀ (K0 : Below callerA h₀ [] h₀) (X : (hd1.heap_39 w.params).In h₀) (T : Top hd1.view_39 (looseW hd1.view_39 []) mean mg mb h₀)
  (F : Fr h₀ L s.heap (fun y => if y = Str.ofString "told" then some (.ref R) else if y = Str.ofString "whole" then some (.str x tx) else if y = Str.ofString "halves" then some (.ref H) else m y))
  (N : News h₀ L s.heap [(R, W.listOf #[.str p t0, .str q t1] 0), (H, W.listOf #[.str p t2, .str q t3] 0), (D, on)]) (hlt : D < H) (hlt2 : H < R) (hlt3 : D < R)
  (k : ∀ (h' : Heap) (tk : Nat), Fr h₀ L h' (fun y => if y = Str.ofString "told" then some (.ref R) else if y = Str.ofString "whole" then some (.str x tx) else if y = Str.ofString "halves" then some (.ref H) else m y) →
    News h₀ L h' [(R, W.listOf #[.str p t0, .str q t1] 0), (H, W.listOf #[.str p t2, .str q t3] 0), (D, on)] →
    wpR (model PySem.Challenge.rw_pe0048_01.row.prog w) (callerA.deeper (envOf law1_d.name law1_d.scope L fa cd)) (execs law1_d.body.tail.tail.tail.tail.tail.tail (envOf law1_d.name law1_d.scope L fa cd)) Q (fun _ _ => False) { s with heap := h', toks := tk }),
  wpR (model PySem.Challenge.rw_pe0048_01.row.prog w) (callerA.deeper (envOf law1_d.name law1_d.scope L fa cd)) (execs law1_d.body.tail.tail.tail.tail.tail (envOf law1_d.name law1_d.scope L fa cd)) Q (fun _ _ => False) s := by
  k_fill
  dsimp only [law1_d, recOf, List.tail_cons]
  intro K0 X T F N hlt hlt2 hlt3 k
  refine R_stmtR (R_if (R_or (wpR_of_any ?_)))
  generalize hE : (fun (_ : Value) (_ : Shared) => False) = E0 at k ⊢
  k_steps
  k_dflt (refine ne_dataH (by ke_read) (by ke_read) ?_ ?_ (by ke_room) ?_)
  · exact hshape
  · exact hshape
  simp only [PyData.eqv, PyData.eqvAll, beq_self_eq_true, Bool.and_true, Bool.true_and, Bool.and_false, Bool.false_and, Bool.not_true, Bool.not_false]
  k_steps
  refine R_or (R_cmp (ListComp_TR F (by with_unfolding_all rfl) (by decide) (by rfl) (by decide) (by rfl) (R_binop (R_list (R_args_cons (wpR_of_any ?_))))))
  k_steps
  refine R_args_cons (R_Call ?_)
  k_steps
  refine R_args_fn (R_args_cons (wpR_of_any ?_))
  k_steps
  refine R_args_nil ⟨isFn_K X (by assumption) (by k_is), ?_⟩
  refine turned_c w mean mg mb x _ h256 hne hsz _ _ _ _ _ _ fa cd [] [] callerA h₀ h₀ L _ _ _ _ K0 (by assumption) X (by assumption) T rfl (by decide) (by decide) ?_
  intro ty h2 tk2 F2 N2
  refine R_args_nil ?_
  dsimp only
  k_steps
  k_dflt (refine srcLT_led (n := 4) (by rfl) (by k_asm) (by k_asm) (by k_mem) (by rfl) (Nat.le_of_ble_eq_true rfl) ?_; intro g')
  iterate 11 (first | walk1 | (dsimp only; walk1))
  refine refused_c w mean mg mb _ _ rx hsz _ _ _ fa cd h₀ L _ _ _ _ K0 (by assumption) X (by assumption) T rfl ?_
  intro h5 tk5 F5 N5
  iterate 2 (first | walk1 | (dsimp only; walk1))
  rw [if_pos rfl]
  walk1
  iterate 11 (first | walk1 | (dsimp only; walk1))
  refine refused_c w mean mg mb _ _ ry hsy _ _ _ fa cd h₀ L _ _ _ _ K0 (by assumption) X (by assumption) T rfl ?_
  intro h5 tk5 F5 N5
  iterate 2 (first | walk1 | (dsimp only; walk1))
  rw [if_pos rfl]
  walk1
  iterate 11 (first | walk1 | (dsimp only; walk1))
  refine refused_c w mean mg mb _ _ rp hsp _ _ _ fa cd h₀ L _ _ _ _ K0 (by assumption) X (by assumption) T rfl ?_
  intro h5 tk5 F5 N5
  iterate 2 (first | walk1 | (dsimp only; walk1))
  rw [if_pos rfl]
  walk1
  iterate 11 (first | walk1 | (dsimp only; walk1))
  refine refused_c w mean mg mb _ _ rq hsq _ _ _ fa cd h₀ L _ _ _ _ K0 (by assumption) X (by assumption) T rfl ?_
  intro h5 tk5 F5 N5
  iterate 2 (first | walk1 | (dsimp only; walk1))
  rw [if_pos rfl]
  walk1
  k_steps
  rename Fr h₀ L _ _ => F9
  rename News h₀ L _ _ => N9
  refine R_or_nil ?_
  simp only [Bool.false_eq_true, if_false]
  refine wpR_pure ?_
  exact k _ _ F9 (cb_drop N9 (by lcg_sub))
end Mine
end
theorem Mine.off_RComp2 : True := by
  w_top off
  trivial
section
open PySem PySem.W PyProof.Rows PySem.Calls PySem.Spec PyProof.Rows.LCg
set_option Elab.async false
set_option maxRecDepth 100000
namespace Mine
abbrev two (elt iter iter2 : Expr) (x y : Str) (px py : Pos) (scope : Scope) (pos : Pos) : Expr := .ListComp elt [⟨.Name x px, iter, [], 0⟩, ⟨.Name y py, iter2, [], 0⟩] scope pos
section
variable {elt iter iter2 : Expr} {x y : Str} {px py : Pos} {scope : Scope} {pos : Pos} {it acc : Value} {env : Env}
theorem turn_two0 : compTurn (two elt iter iter2 x y px py scope pos) 0 it acc env = (standAt iter.pos >>= fun _ => pyNext it >>= fun r => match r with
    | none => pure (.done .next)
    | some v => letOwnedTupleGo (.Name x px) it v >>= fun _ => assign (.Name x px) env v >>= fun _ =>
      (eval iter2 env >>= fun xv => standAt iter2.pos >>= fun _ => foldedSetIterable iter2 env xv >>= fun xv => holding [xv] (pyIter xv) >>= fun it2 =>
        runOwn (.compStart (two elt iter iter2 x y px py scope pos) 1 it2 acc env) env >>= fun _ =>
          again (.compLoop (two elt iter iter2 x y px py scope pos) 0 it acc env))) := by rfl
theorem turn_two1 : compTurn (two elt iter iter2 x y px py scope pos) 1 it acc env = (standAt iter2.pos >>= fun _ => pyNext it >>= fun r => match r with
    | none => pure (.done .next)
    | some v => letOwnedTupleGo (.Name y py) it v >>= fun _ => assign (.Name y py) env v >>= fun _ =>
      (eval elt env >>= fun xv => call (.builtin "list.append") [acc, xv] >>= fun _ => pure ()) >>= fun _ =>
          again (.compLoop (two elt iter iter2 x y px py scope pos) 1 it acc env)) := by rfl
end
section
variable {prog : Program} {w : World} {A : Around} {s : Shared} {elt iter iter2 : Expr} {x y : Str} {px py : Pos} {scope : Scope} {pos : Pos} {it acc : Value} {env : Env} {R : Result → Shared → Prop}
theorem noted_no {M : Model} {A : Around} {env : Env} {α : Type} {m : Sem α} {E : Value → Shared → Prop} {Q : α → Shared → Prop} {k : Value → Sem Unit} {s : Shared} (h : wpR M A m Q (fun _ _ => False) s) : wpR M A (m.onRaise k) Q E s :=
  wpR_onRaise (wpR_mono h (fun _ _ q => q) fun _ _ f => f.elim)
/-- one turn of the inner loop -/
theorem inner_turn (h : wpAny (model prog w) A (pyNext it) (fun r s₁ => match r with
      | none => R (.ok .next) s₁
      | some v => wpAny (model prog w) A (assign (.Name y py) env v) (fun _ s₂ => wpAny (model prog w) A (eval elt env) (fun xv s₃ =>
          wpAny (model prog w) A (call (.builtin "list.append") [acc, xv]) (fun _ s₄ => codeR (model prog w) A (.compLoop (two elt iter iter2 x y px py scope pos) 1 it acc env) R s₄) (fun _ _ => False) s₃) (fun _ _ => False) s₂) (fun _ _ => False) s₁) (fun _ _ => False) s) :
    codeR (model prog w) A (.compLoop (two elt iter iter2 x y px py scope pos) 1 it acc env) R s := by
  refine codeR_of_tree rfl ?_
  show wpR _ A ((compTurn (two elt iter iter2 x y px py scope pos) 1 it acc env).onRaise (fun x => do noteFrame x env; theTreesLotGoes x)) _ _ s
  refine noted_no (env := env) ?_
  rw [turn_two1]
  refine wpR_bind (wpR_standAt (wpR_bindA (wpAny_mono h (fun r s₁ h₁ => ?_) fun _ _ e => e)))
  cases r with
  | none => exact wpR_pure h₁
  | some v =>
    refine wpR_bind (wpR_pure ?_)
    refine wpR_bindA (wpAny_mono h₁ (fun _ s₂ h₂ => ?_) fun _ _ e => e)
    refine wpR_bind (wpR_bindA (wpAny_mono h₂ (fun xv s₃ h₃ => ?_) fun _ _ e => e))
    refine wpR_bindA (wpAny_mono h₃ (fun _ s₄ h₄ => ?_) fun _ _ e => e)
    exact wpR_pure (wpR_pure ⟨rfl, h₄⟩)
/-- one turn of the outer loop -/
theorem outer_turn (hs : ∀ x, foldedSetIterable iter2 env x = pure x)
    (h : wpAny (model prog w) A (pyNext it) (fun r s₁ => match r with
      | none => R (.ok .next) s₁
      | some v => wpAny (model prog w) A (assign (.Name x px) env v) (fun _ s₂ => wpR (model prog w) A (eval iter2 env) (fun xv s₃ =>
          wpAny (model prog w) A (pyIter xv) (fun it2 s₄ => codeR (model prog w) A (.compStart (two elt iter iter2 x y px py scope pos) 1 it2 acc env)
            (fun r s₅ => match r with | .ok _ => codeR (model prog w) A (.compLoop (two elt iter iter2 x y px py scope pos) 0 it acc env) R s₅ | .error _ => False) s₄) (fun _ _ => False) s₃) (fun _ _ => False) s₂) (fun _ _ => False) s₁) (fun _ _ => False) s) :
    codeR (model prog w) A (.compLoop (two elt iter iter2 x y px py scope pos) 0 it acc env) R s := by
  refine codeR_of_tree rfl ?_
  show wpR _ A ((compTurn (two elt iter iter2 x y px py scope pos) 0 it acc env).onRaise (fun x => do noteFrame x env; theTreesLotGoes x)) _ _ s
  refine noted_no (env := env) ?_
  rw [turn_two0]
  refine wpR_bind (wpR_standAt (wpR_bindA (wpAny_mono h (fun r s₁ h₁ => ?_) fun _ _ e => e)))
  cases r with
  | none => exact wpR_pure h₁
  | some v =>
    refine wpR_bind (wpR_pure ?_)
    refine wpR_bindA (wpAny_mono h₁ (fun _ s₂ h₂ => ?_) fun _ _ e => e)
    refine wpR_bind (wpR_mono h₂ (fun xv s₃ h₃ => ?_) fun _ _ e => e)
    refine wpR_bind (wpR_standAt (wpR_bindA (wpAny_of_eq (hs xv) ?_)))
    refine wpR_bind (wpR_holding (wpR_of_any (wpAny_mono h₃ (fun it2 s₄ h₄ => ?_) fun _ _ e => e)))
    refine wpR_bind ?_
    unfold runOwn
    refine noted_no (env := env) (wpR_run (codeR_mono h₄ fun r s₅ h₅ => ?_))
    cases r with
    | ok f => exact wpR_pure ⟨rfl, h₅⟩
    | error e => exact h₅.elim
theorem start_two (d : Nat) (hd : d < 2)
    (h0 : codeR (model prog w) A (.compLoop (two elt iter iter2 x y px py scope pos) d it acc env) R s)
    (h : wpAny (model prog w) A (pyIter it) (fun it' s' => codeR (model prog w) A (.compLoop (two elt iter iter2 x y px py scope pos) d it' acc env) R s') (fun _ _ => False) s) :
    codeR (model prog w) A (.compStart (two elt iter iter2 x y px py scope pos) d it acc env) R s := by
  refine codeR_of_tree rfl ?_
  have hdd : d = 0 ∨ d = 1 := by omega
  rcases hdd with rfl | rfl
  all_goals
    show wpR _ _ ((compStart (two elt iter iter2 x y px py scope pos) _ it acc env).onRaise (fun x => do noteFrame x env; standAt theWindowsPlace)) _ _ s
    refine noted_no (env := env) ?_
    unfold compStart
    show wpR _ _ (ask >>= _) _ _ s
    refine wpR_bindA (wpAny_askSetting ?_)
    split
    · exact wpR_pure ⟨rfl, h0⟩
    · exact wpR_bindA (wpAny_rule (wpR_bind (wpR_standAt (wpR_bindA (wpAny_mono h (fun it' s' h' => wpR_pure ⟨rfl, h'⟩) fun _ _ e => e)))))
end
section
variable {M : Model} {A : Around} {E : Value → Shared → Prop} {s : Shared} {env : Env}
theorem compR_free {e : Expr} {scope : Scope} {pos : Pos} {newAcc : Sem Value} {xv : Value} {g : Comprehension} {gs : List Comprehension} {cl : List (Str × Addr)} {Q : Value → Shared → Prop}
    (hcl : clausesOf e = g :: gs) (hs : ∀ x, foldedSetIterable g.iter env x = pure x) (hclos : closureFor scope env = pure cl)
    (hkind : scope.kind = .function) (hnames : ∀ x ∈ scope.names, x.2 = .local → scope.names.lookup x.1 = some .local)
    (h : wpAny M A (pyIter xv) (fun it s₂ => wpAny M A newAcc (fun acc s₃ =>
      wpAny M A (newFunctionEnv scope env.globals cl [] env.qual none .none (some env)) (fun cenv s₄ =>
        codeR M A (.compStart e 0 it acc { cenv with scope := relabel scope env }) (fun r s' => match r with
          | .ok _ => ∃ m, s'.heap.Ns cenv.locals m ∧ ∀ h', Heap.SameBut cenv.locals s'.heap h' → Q acc { s' with heap := h' }
          | .error _ => False) s₄) E s₃) E s₂) E s) :
    wpR M A (comprehension e scope env pos newAcc false (pure xv) none) Q E s := by
  unfold comprehension
  rw [hclos, hcl]
  refine wpR_bind (wpR_pure (wpR_bind (wpR_standAt (wpR_bindA (wpAny_of_eq (hs xv) ?_)))))
  refine wpR_bind (wpR_holding (wpR_of_any (wpAny_mono h (fun it s₂ h₂ => ?_) fun _ _ e => e)))
  refine wpR_bindA (wpAny_mono h₂ (fun acc s₃ h₃ => ?_) fun _ _ e => e)
  refine wpR_bind (wpR_pure (wpR_bindA (wpAny_mono h₃ (fun cenv s₄ h₄ => ?_) fun _ _ e => e)))
  dsimp only
  have hv : ∀ x ∈ (scope.names.filter fun x => (x.2 == .local || x.2 == .cell) && x.1 != (".0" : Str)).reverse, x.2 = .local →
      Env.kindOf { cenv with scope := relabel scope env } x.1 = some .local := fun x hx hl => lookup_relabel_local (hnames x (List.mem_filter.mp (List.mem_reverse.mp hx)).1 hl)
  refine wpR_holding (wpR_bind (wpR_attempt (wpR_holding (wpR_run (codeR_mono h₄ fun r s' hr => ?_)))))
  cases r with
  | ok f =>
    obtain ⟨m, hn, hr⟩ := hr
    exact wpR_of_any (wpAny_bind (wpAny_holding (wpAny_comp_letGo (cenv := { cenv with scope := relabel scope env }) hkind _ s' m hv hn fun h' m' _ hs' => wpAny_pure (hr h' hs'))))
  | error x => exact hr.elim
end
end Mine
end
theorem Mine.off_RComp3 : True := by
  w_top off
  trivial
section
open PySem PySem.W PyProof.Rows PySem.Calls PySem.Spec PyProof.Rows.LCg
set_option Elab.async false
set_option maxRecDepth 100000
namespace Mine
section
variable {prog : Program} {w : World} {A : Around} {s₀ : Shared} {elt iter iter2 : Expr} {x y : Str} {px py pe : Pos} {scope : Scope} {pos : Pos} {env : Env} {cl : List (Str × Addr)} {R : Result → Shared → Prop}
/-- the inner loop, where the item itself is kept -/
theorem inner_loop {C D J bx : Addr} {its : Array Value} {ys : List Value} {g : Heap} (hh : A.handled = none) (hsz : ys.length + its.size ≤ sizeLine)
    (hkind : scope.kind = .function) (hy : scope.names.lookup y = some .local) (hyd : (y == ("__debug__" : Str)) = false)
    (nJC : J ≠ C) (nJD : J ≠ D) (nCD : C ≠ D) (nbJ : bx ≠ J) (nbC : bx ≠ C) (nbD : bx ≠ D)
    (hR : ∀ h tk m₂, h.Ns C m₂ → h.get? D = some (lst (ys ++ its.toList)) → (∀ b o, b ≠ J → b ≠ C → b ≠ D → g.get? b = some o → h.get? b = some o) → R (.ok .next) { s₀ with heap := h, toks := tk }) :
    ∀ (k j : Nat), j + k = its.size → ∀ (h : Heap) (tk : Nat) (m₂ : Str → Option Value), (h.IsListIter J bx j ∧ h.IsList bx its) → h.Ns C m₂ → h.get? D = some (lst (ys ++ its.toList.take j)) →
      (∀ b o, b ≠ J → b ≠ C → b ≠ D → g.get? b = some o → h.get? b = some o) →
      codeR (model prog w) A (.compLoop (two (.Name y pe) iter iter2 x y px py scope pos) 1 (.ref J) (.ref D) (compEnvC scope cl C env)) R { s₀ with heap := h, toks := tk }
  | 0, j, hj, h, tk, m₂, hst, hn, hD, hk => by
    have W := Walks.list (prog := prog) (w := w) (A := A) hh J bx nbJ its
    obtain rfl : j = its.size := by omega
    refine inner_turn (W.done _ _ _ hst fun h' tk' hk' => ?_)
    have hk'' : ∀ b o, b ≠ J → h.get? b = some o → h'.get? b = some o := fun b o hb e => hk' b o (by simpa using hb) e
    refine hR h' tk' m₂ (hn.at' fun o e => hk'' _ o (Ne.symm nJC) e) ?_ fun b o b1 b2 b3 e => hk'' b o b1 (hk b o b1 b2 b3 e)
    refine hk'' _ _ (Ne.symm nJD) ?_
    rw [hD, List.take_of_length_le (by simp)]
  | k + 1, j, hj, h, tk, m₂, hst, hn, hD, hk => by
    have W := Walks.list (prog := prog) (w := w) (A := A) hh J bx nbJ its
    refine inner_turn (W.item j _ _ _ (by omega) hst fun v h₂ tk₂ hv hst₂ hk' => ?_)
    have hk₂ : ∀ b o, b ≠ J → h.get? b = some o → h₂.get? b = some o := fun b o hb e => hk' b o (by simpa using hb) e
    refine wpAny_assign_Name (wpAny_storeName_local (lookup_relabel_local hy) (hn.at' fun o e => hk₂ _ o (Ne.symm nJC) e) (fun h₃ hn₃ hs₃ => ?_) (by simp [compEnvC, relabel, hkind]))
    refine ldVarK (v := v) hn₃ (by simp) ?_ hkind (lookup_relabel_local hy) hyd
    have hD₃ : h₃.get? D = some (lst (ys ++ its.toList.take j)) := hs₃.extBut _ _ (Ne.symm nCD) (hk₂ _ _ (Ne.symm nJD) hD)
    have hz : (ys ++ its.toList.take j).toArray.size ≤ sizeLine := by
      rw [List.size_toArray, List.length_append, List.length_take, Array.length_toList]
      exact Nat.le_trans (Nat.add_le_add_left (Nat.min_le_right _ _) _) hsz
    have e1 : ys ++ its.toList.take j ++ [v] = ys ++ its.toList.take (j + 1) := by
      rw [List.append_assoc, List.take_succ, Array.getElem?_toList, hv]
      rfl
    refine append_at (hsz := hz) hD₃ fun h₅ hs₅ hD₅ => ?_
    refine inner_loop hh hsz hkind hy hyd nJC nJD nCD nbJ nbC nbD hR k (j + 1) (by omega) h₅ _ _ ?_ (hn₃.sameBut hs₅ nCD) ?_ ?_
    · refine W.frame _ _ _ hst₂ fun b hb o e => ?_
      have hb' : b ≠ C ∧ b ≠ D := by
        rcases List.mem_cons.mp hb with rfl | hb
        · exact ⟨nJC, nJD⟩
        · rw [List.mem_singleton.mp hb]; exact ⟨nbC, nbD⟩
      exact hs₅.extBut _ _ hb'.2 (hs₃.extBut _ _ hb'.1 e)
    · rw [hD₅, lst_snoc, e1]
    · exact fun b o b1 b2 b3 e => hs₅.extBut _ _ b3 (hs₃.extBut _ _ b2 (hk₂ _ _ b1 (hk b o b1 b2 b3 e)))
/-- what is asked of the turns of a comprehension with two clauses that keeps the inner item -/
def Rest2 (prog : Program) (w : World) (A : Around) (h₀ : Heap) (L : Addr) (m : Str → Option Value) (env : Env) (iter2 : Expr) (x : Str) (scope : Scope) (cl : List (Str × Addr)) (s : Shared) (ax : Addr) (its : Array Value) (Fin : List Value → List (Addr × Obj) → Prop) :
    Nat → Nat → List Value → List (Addr × Obj) → Prop
  | 0, _, ys, news => Fin ys news
  | k + 1, i, ys, news => ∀ v I oI C oC D m₂ h tk, its[i]? = some v → NsObj oC m₂ → m₂ x = some v → Fr h₀ L h m → News h₀ L h ((I, oI) :: (C, oC) :: (D, lst ys) :: news) → Off3 I C D news → ((@Ne Nat I C) ∧ (@Ne Nat I D) ∧ (@Ne Nat C D)) →
    wpR (model prog w) A (eval iter2 (compEnvC scope cl C env)) (fun xv s' => ∃ h' tk' news' bx its2 n2, s' = { s with heap := h', toks := tk' } ∧ xv = .ref bx ∧ Fr h₀ L h' m ∧ News h₀ L h' ((I, oI) :: (C, oC) :: (D, lst ys) :: news') ∧ Off3 I C D news' ∧
      SrcAt h₀ ax its news' ∧ (bx, ({ cls := .type "list", data := .seq its2 n2 } : Obj)) ∈ news' ∧ ys.length + its2.size ≤ sizeLine ∧ Rest2 prog w A h₀ L m env iter2 x scope cl s ax its Fin k (i + 1) (ys ++ its2.toList) news') (fun _ _ => False) { s with heap := h, toks := tk }
theorem outer_loop {h₀ : Heap} {L C D I ax : Addr} {m : Str → Option Value} {its : Array Value} {Fin : List Value → List (Addr × Obj) → Prop} (hh : A.handled = none) (nax : ax ≠ I)
    (hs : ∀ x, foldedSetIterable iter2 (compEnvC scope cl C env) x = pure x)
    (hkind : scope.kind = .function) (hx : scope.names.lookup x = some .local) (hy : scope.names.lookup y = some .local) (hyd : (y == ("__debug__" : Str)) = false)
    (nIC : I ≠ C) (nID : I ≠ D) (nCD : C ≠ D) (hIL : L ≠ I) (hI₀ : h₀.get? I = none) (hCL : C ≠ L) (hC₀ : h₀.get? C = none) (hDL : D ≠ L) (hD₀ : h₀.get? D = none)
    (hR : ∀ h tk m' ys news', Fr h₀ L h m → News h₀ L h ((D, lst ys) :: news') → Off1 D news' → h.Ns C m' → (∀ p ∈ news', p.1 ≠ C) → Fin ys news' → R (.ok .next) { s₀ with heap := h, toks := tk }) :
    ∀ (k i : Nat), i + k = its.size → ∀ (h : Heap) (tk : Nat) (m' : Str → Option Value) (ys : List Value) (news' : List (Addr × Obj)), (h.IsListIter I ax i ∧ h.IsList ax its) → Fr h₀ L h m → h.Ns C m' → News h₀ L h ((D, lst ys) :: news') →
      Off3 I C D news' → SrcAt h₀ ax its news' → Rest2 prog w A h₀ L m env iter2 x scope cl s₀ ax its Fin k i ys news' →
      codeR (model prog w) A (.compLoop (two (.Name y pe) iter iter2 x y px py scope pos) 0 (.ref I) (.ref D) (compEnvC scope cl C env)) R { s₀ with heap := h, toks := tk }
  | 0, i, hi, h, tk, m', ys, news', hst, F, hn, N, off, hS, hRest => by
    have W := Walks.list (prog := prog) (w := w) (A := A) hh I ax nax its
    obtain rfl : i = its.size := by omega
    refine outer_turn hs (W.done _ _ _ hst fun h' tk' hk' => ?_)
    have off3 := off.mem
    exact hR h' tk' m' ys news' (fr_but F hk' hIL hI₀) (news_but N hk' fun p hp => by
      rcases List.mem_cons.mp hp with rfl | hp
      · exact Ne.symm nID
      · exact (off3 p hp).1) off.one (hn.at' fun o e => hk' _ o (by simpa using Ne.symm nIC) e) (fun p hp => (off3 p hp).2.1) hRest
  | k + 1, i, hi, h, tk, m', ys, news', hst, F, hn, N, off, hS, hRest => by
    have W := Walks.list (prog := prog) (w := w) (A := A) hh I ax nax its
    have off3 := off.mem
    refine outer_turn hs (W.item i _ _ _ (by omega) hst fun v h₂ tk₂ hv hst₂ hk' => ?_)
    refine wpAny_assign_Name (wpAny_storeName_local (lookup_relabel_local hx) (hn.at' fun o e => hk' _ o (by simpa using Ne.symm nIC) e) (fun h₃ hn₃ hs₃ => ?_) (by simp [compEnvC, relabel, hkind]))
    have hlist : ax ≠ C := fun q => by
      rcases hS with ⟨o, e, _⟩ | ⟨o, hm, _⟩
      · rw [q, hC₀] at e; cases e
      · exact (off3 _ hm).2.1 q
    have hst₃ : h₃.IsListIter I ax (i + 1) ∧ h₃.IsList ax its := W.frame _ _ _ hst₂ fun b hb o e => hs₃.extBut b o (by
      rcases List.mem_cons.mp hb with rfl | hb
      · exact nIC
      · rw [List.mem_singleton.mp hb]; exact hlist) e
    obtain ⟨oI, heI, hoI⟩ := hst₃.1
    obtain ⟨oC, heC, hoC⟩ := ns_obj hn₃
    have F₃ : Fr h₀ L h₃ m := (fr_but F hk' hIL hI₀).change hs₃ hCL hC₀
    have N₂ : News h₀ L h₂ ((D, lst ys) :: news') := news_but N hk' fun p hp => by
      rcases List.mem_cons.mp hp with rfl | hp
      · exact Ne.symm nID
      · exact (off3 p hp).1
    have N₃ : News h₀ L h₃ ((I, oI) :: (C, oC) :: (D, lst ys) :: news') := fun p hp => by
      rcases List.mem_cons.mp hp with rfl | hp
      · exact ⟨heI, Ne.symm hIL, hI₀⟩
      · rcases List.mem_cons.mp hp with rfl | hp
        · exact ⟨heC, hCL, hC₀⟩
        · have z := N₂ p hp
          refine ⟨hs₃.extBut _ _ ?_ z.1, z.2⟩
          rcases List.mem_cons.mp hp with rfl | hp
          · exact Ne.symm nCD
          · exact (off3 p hp).2.1
    refine wpR_mono (hRest v I oI C oC D _ h₃ _ hv hoC (by simp) F₃ N₃ off ⟨nIC, nID, nCD⟩) (fun xv s' h₄ => ?_) fun _ _ e => e
    obtain ⟨h₄, tk₄, news₄, bx, its2, n2, rfl, rfl, F₄, N₄, off₄, hS₄, hbx, hlen, R₄⟩ := h₄
    have off4 := off₄.mem
    have zI := (N₄ (I, oI) List.mem_cons_self).1
    have zC := (N₄ (C, oC) (List.mem_cons_of_mem _ List.mem_cons_self)).1
    have zD := (N₄ (D, lst ys) (List.mem_cons_of_mem _ (List.mem_cons_of_mem _ List.mem_cons_self))).1
    have N₄' : News h₀ L h₄ news₄ := fun p hp => N₄ p (List.mem_cons_of_mem _ (List.mem_cons_of_mem _ (List.mem_cons_of_mem _ hp)))
    have hl : h₄.IsList bx its2 := ⟨_, (N₄' _ hbx).1, rfl, _, rfl⟩
    have ltJ : ∀ {b : Addr} {o : Obj}, h₄.get? b = some o → b ≠ h₄.objs.size := fun e => Nat.ne_of_lt (Heap.lt_size e)
    have nbC := (off4 _ hbx).2.1
    have nbD := (off4 _ hbx).2.2
    have nbJ : bx ≠ h₄.objs.size := ltJ (N₄' _ hbx).1
    refine wpAny_pyIter_list hl ?_
    have up : ∀ b o, h₄.get? b = some o → (h₄.push { cls := .type "list_iterator", data := .fields #[.ref bx, .int 0 0] }).get? b = some o := fun b o e => Heap.get?_push_of_some _ e
    have stJ : (h₄.push { cls := .type "list_iterator", data := .fields #[.ref bx, .int 0 0] }).IsListIter h₄.objs.size bx 0 ∧ (h₄.push { cls := .type "list_iterator", data := .fields #[.ref bx, .int 0 0] }).IsList bx its2 := ⟨⟨_, Heap.get?_push_size _ rfl, rfl, rfl⟩, hl.push _⟩
    have loop := inner_loop (prog := prog) (w := w) (A := A) (s₀ := s₀) (iter := iter) (iter2 := iter2) (x := x) (y := y) (px := px) (py := py) (pe := pe) (scope := scope) (pos := pos) (env := env) (cl := cl) (C := C) (D := D) (J := h₄.objs.size) (bx := bx) (its := its2) (ys := ys)
      (R := fun r s₅ => match r with | .ok _ => codeR (model prog w) A (.compLoop (two (.Name y pe) iter iter2 x y px py scope pos) 0 (.ref I) (.ref D) (compEnvC scope cl C env)) R s₅ | .error _ => False)
      (g := h₄.push { cls := .type "list_iterator", data := .fields #[.ref bx, .int 0 0] }) hh hlen hkind hy hyd (Ne.symm (ltJ zC)) (Ne.symm (ltJ zD)) nCD nbJ nbC nbD (fun h₅ tk₅ m₅ hn₅ hD₅ hk₅ => by
        have kk : ∀ b o, h₄.get? b = some o → b ≠ C → b ≠ D → h₅.get? b = some o := fun b o e b1 b2 => hk₅ b o (ltJ e) b1 b2 (up b o e)
        have F₅ : Fr h₀ L h₅ m := ⟨F₄.ns.at' fun o e => kk _ o e (Ne.symm hCL) (Ne.symm hDL), fun b o e => kk b o (F₄.keep b o e) (fun q => by rw [q, hC₀] at e; cases e) (fun q => by rw [q, hD₀] at e; cases e), F₄.above⟩
        have N₅ : News h₀ L h₅ news₄ := fun p hp => ⟨kk _ _ (N₄' p hp).1 (off4 p hp).2.1 (off4 p hp).2.2, (N₄' p hp).2⟩
        refine outer_loop hh nax hs hkind hx hy hyd nIC nID nCD hIL hI₀ hCL hC₀ hDL hD₀ hR k (i + 1) (by omega) h₅ tk₅ m₅ _ news₄ ⟨⟨oI, kk _ _ zI nIC nID, hoI⟩, hS₄.list F₅.keep N₅⟩ F₅ hn₅ (fun p hp => ?_) off₄ hS₄ R₄
        rcases List.mem_cons.mp hp with rfl | hp
        · exact ⟨hD₅, hDL, hD₀⟩
        · exact N₅ p hp) its2.size 0 (by omega) _ tk₄ _ stJ ((hoC.ns zC).at' fun o e => up _ o e) (by rw [List.take_zero, List.append_nil]; exact up _ _ zD) (fun b o _ _ _ e => e)
    exact start_two 1 (by omega) loop ((Walks.list (prog := prog) (w := w) (A := A) hh h₄.objs.size bx nbJ its2).self 0 _ _ _ stJ loop)
end
end Mine
end
theorem Mine.off_RComp4 : True := by
  w_top off
  trivial
section
open PySem PySem.W PyProof.Rows PySem.Calls PySem.Spec PyProof.Rows.LCg
set_option Elab.async false
set_option maxRecDepth 100000
namespace Mine
section
variable {prog : Program} {w : World} {A : Around} {s : Shared} {iter iter2 : Expr} {x y : Str} {px py pe : Pos} {scope : Scope} {pos : Pos} {env : Env} {cl : List (Str × Addr)} {h₀ : Heap} {L : Addr} {m : Str → Option Value}
theorem ListComp_two {Q : Value → Shared → Prop} (F₀ : Fr h₀ L s.heap m)
    (hclos : closureFor scope env = pure cl) (hcell : ∀ y ∈ scope.names, y.2 ≠ .cell) (hkind : scope.kind = .function)
    (hnames : ∀ y ∈ scope.names, y.2 = .local → scope.names.lookup y.1 = some .local) (hx : scope.names.lookup x = some .local) (hy : scope.names.lookup y = some .local) (hyd : (y == ("__debug__" : Str)) = false)
    (h : wpAny (model prog w) A (eval iter env) (fun xv s₁ => ∃ ax its n news, xv = .ref ax ∧ A.handled = none ∧ Fr h₀ L s₁.heap m ∧ News h₀ L s₁.heap news ∧ SrcAt h₀ ax its news ∧ its.size = n ∧
      ∀ g, Rest2 prog w A h₀ L m env iter2 x scope cl { s₁ with heap := g } ax its (FinE h₀ L m { s₁ with heap := g } Q) n 0 [] news) (fun _ _ => False) s)
    (hs : ∀ x, foldedSetIterable iter env x = pure x := by intro _; rfl) (hs2 : ∀ C x, foldedSetIterable iter2 (compEnvC scope cl C env) x = pure x := by intro _ _; rfl) :
    wpR (model prog w) A (eval (two (.Name y pe) iter iter2 x y px py scope pos) env) Q (fun _ _ => False) s := by
  rw [eval_ListComp]
  refine R_comp (wpR_of_any (wpAny_mono h (fun xv s₁ h₁ => ?_) fun _ _ e => e))
  obtain ⟨ax, its, n, news, rfl, hh, F, N, S, rfl, R⟩ := h₁
  refine compR_free rfl hs hclos hkind hnames ?_
  have hl := S.list F.keep N
  have hlt : ax < s₁.heap.objs.size := by obtain ⟨_, e, _⟩ := hl; exact Heap.lt_size e
  refine wpAny_pyIter_list hl ?_
  have up : ∀ b o, s₁.heap.get? b = some o → (s₁.heap.push { cls := .type "list_iterator", data := .fields #[.ref ax, .int 0 0] }).get? b = some o := fun b o e => Heap.get?_push_of_some _ e
  have stI : (s₁.heap.push { cls := .type "list_iterator", data := .fields #[.ref ax, .int 0 0] }).IsListIter s₁.heap.objs.size ax 0 ∧ (s₁.heap.push { cls := .type "list_iterator", data := .fields #[.ref ax, .int 0 0] }).IsList ax its := ⟨⟨_, Heap.get?_push_size _ rfl, rfl, rfl⟩, hl.push _⟩
  have F₁ := F.keeps up
  have N₁ := N.grown up
  have hI₀ := next_is_new F
  have hIL : L ≠ s₁.heap.objs.size := Nat.ne_of_lt F.ns.lt
  have offI : ∀ p ∈ news, p.1 ≠ s₁.heap.objs.size := fun p hp => Nat.ne_of_lt (Heap.lt_size (N p hp).1)
  have nax : ax ≠ s₁.heap.objs.size := Nat.ne_of_lt hlt
  have hIlt : s₁.heap.objs.size < (s₁.heap.push { cls := .type "list_iterator", data := .fields #[.ref ax, .int 0 0] }).objs.size := by rw [Heap.size_push]; exact Nat.lt_succ_self _
  have haxlt : ax < (s₁.heap.push { cls := .type "list_iterator", data := .fields #[.ref ax, .int 0 0] }).objs.size := Nat.lt_trans hlt hIlt
  generalize s₁.heap.objs.size = I at *
  generalize s₁.heap.push { cls := .type "list_iterator", data := .fields #[.ref ax, .int 0 0] } = G at *
  refine wpAny_newObj_type (wpAny_newFunctionEnv hcell (by intro y hy; simp at hy) (fun h₁ hns₁ hsb₁ => ?_) hkind)
  dsimp only at hns₁ hsb₁ ⊢
  generalize hH2 : G.push { cls := .type "list", dict := none, data := .seq ([] : List Value).toArray } = H2 at hns₁ hsb₁ ⊢
  have hC : H2.objs.size = G.objs.size + 1 := by rw [← hH2, Heap.size_push]
  have hDC : G.objs.size ≠ H2.objs.size := by rw [hC]; exact Nat.ne_of_lt (Nat.lt_succ_self _)
  have below : ∀ b, b < G.objs.size → b ≠ H2.objs.size ∧ b ≠ G.objs.size := fun b hb => ⟨by rw [hC]; exact Nat.ne_of_lt (Nat.lt_succ_of_lt hb), Nat.ne_of_lt hb⟩
  have old : ∀ b o, G.get? b = some o → h₁.get? b = some o := fun b o e => hsb₁.extBut b o (below b (Heap.lt_size e)).1 (Heap.get?_push_of_some _ (hH2 ▸ Heap.get?_push_of_some _ e))
  have hacc : h₁.get? G.objs.size = some (lst []) := hsb₁.extBut _ _ hDC (Heap.get?_push_of_some _ (hH2 ▸ Heap.get?_push_size _ rfl))
  have fresh : ∀ a, G.objs.size ≤ a → G.get? a = none := fun a ha => by
    cases e : G.get? a with
    | none => rfl
    | some o' => exact absurd (Heap.lt_size e) (Nat.not_lt.mpr ha)
  have fresh₀ : ∀ a, G.objs.size ≤ a → h₀.get? a = none := fun a ha => by
    cases e : h₀.get? a with
    | none => rfl
    | some o' => have := F₁.keep a o' e; rw [fresh a ha] at this; cases this
  have hD₀ : h₀.get? G.objs.size = none := fresh₀ _ (Nat.le_refl _)
  have hC₀ : h₀.get? H2.objs.size = none := fresh₀ _ (by rw [hC]; exact Nat.le_succ _)
  have hLlt : L < G.objs.size := F₁.ns.lt
  have hDL : G.objs.size ≠ L := Ne.symm (below L hLlt).2
  have hCL : H2.objs.size ≠ L := Ne.symm (below L hLlt).1
  have hCI : I ≠ H2.objs.size := (below I hIlt).1
  have hDI : I ≠ G.objs.size := (below I hIlt).2
  have off₀ : Off3 I H2.objs.size G.objs.size news := Off3.of fun p hp => ⟨offI p hp, (below _ (Heap.lt_size (N₁ p hp).1)).1, (below _ (Heap.lt_size (N₁ p hp).1)).2⟩
  have st₁ : h₁.IsListIter I ax 0 ∧ h₁.IsList ax its := ⟨stI.1.at fun o e => old _ o e, stI.2.at fun o e => old _ o e⟩
  have loop := outer_loop (prog := prog) (w := w) (A := A) (iter := iter) (iter2 := iter2) (x := x) (y := y) (px := px) (py := py) (pe := pe) (scope := scope) (pos := pos) (env := env) (cl := cl)
    (s₀ := { s₁ with heap := G }) (R := fun r s' => match r with
      | .ok _ => ∃ m, s'.heap.Ns H2.objs.size m ∧ ∀ h', Heap.SameBut H2.objs.size s'.heap h' → Q (.ref G.objs.size) { s' with heap := h' }
      | .error _ => False) (h₀ := h₀) (L := L) (C := H2.objs.size) (D := G.objs.size) (I := I) (m := m) (its := its) (Fin := FinE h₀ L m { s₁ with heap := G } Q) hh nax (hs2 _) hkind hx hy hyd hCI hDI (Ne.symm hDC) hIL hI₀ hCL hC₀ hDL hD₀
    (fun h tk m' ys news' F' N' o1 hn offC fin => by
      refine ⟨m', hn, fun h'' hs'' => fin _ h'' tk (F'.change hs'' hCL hC₀) (fun p hp => ?_) o1⟩
      refine ⟨hs''.extBut _ _ ?_ (N' p hp).1, (N' p hp).2⟩
      rcases List.mem_cons.mp hp with rfl | hp
      · exact hDC
      · exact offC p hp) its.size 0 (Nat.zero_add _) h₁ (s₁.toks + ([] : List (Str × Value)).length) _ [] news st₁ (F₁.keeps old) hns₁ (fun p hp => by
        rcases List.mem_cons.mp hp with rfl | hp
        · exact ⟨hacc, hDL, hD₀⟩
        · exact ⟨old _ _ (N₁ p hp).1, (N₁ p hp).2⟩) off₀ S (R G)
  exact start_two 0 (by omega) loop ((Walks.list (prog := prog) (w := w) (A := A) hh I ax nax its).self 0 _ _ _ st₁ loop)
end
end Mine
end
theorem Mine.off_L1f : True := by
  w_top off
  trivial
section
open PySem PySem.W PyProof.Rows PySem.Calls
set_option Elab.async false
set_option maxRecDepth 100000
set_option maxHeartbeats 8000000
namespace Mine
theorem R_cmpE {M : Model} {A : Around} {E : Value → Shared → Prop} {s : Shared} {env : Env} {l r : Expr} {op : CmpOp} {pos : Pos} {Q : Value → Shared → Prop}
    (h : wpR M A (eval l env) (fun a s₁ => wpAny M A (eval r env) (fun b s₂ => wpAny M A (compareOp op a b) Q E s₂) E s₁) E s)
    (hm : behindInMarks op r = false := by with_unfolding_all rfl) : wpR M A (eval (.Compare l [op] [r] pos) env) Q E s := fun Γ p hΓ h1 h2 => by
  simp only [eval_Compare1, markedBehindIn_of_false hm, Sem.wp_bind', Sem.wp_holding, Sem.wp_cmd_standAt, Sem.wp_operate]
  exact Sem.wp_mono M Γ _ (fun a p₁ s₁ h₁ => Sem.wp_mono M Γ _ (fun b _ s₂ h₂ => h₂ Γ _ hΓ) (fun _ _ _ h' => h') _ _ (h₁ Γ p₁ hΓ))
    (fun _ _ _ h' => h') _ _ (h Γ p hΓ h1 h2)
theorem stage7 (w : World) (mean : ExcName → Option Value) (mg mb : Str → Option Value) (h₀ : Heap) (L fa D H R : Addr) (cd : Value) (x p q a b c d : Str) (lp lp2 lq lq2 : List Nat) (tx t0 t1 t4 t5 t6 t7 : Tok) (s : Shared) (Q : Flow → Shared → Prop) (m : Str → Option Value) (oh : Obj)
  (hp : p.cps.toList = 50 :: 53 :: 55 :: 32 :: 34 :: lp) (hp2 : (turnOf p).cps.toList = 50 :: 53 :: 55 :: 32 :: 34 :: lp2) (hq : q.cps.toList = 50 :: 53 :: 55 :: 32 :: 34 :: lq) (hq2 : (turnOf q).cps.toList = 50 :: 53 :: 55 :: 32 :: 34 :: lq2)
  (ea : (⟨(unq lp).toArray⟩ : Str) = a) (eb : (⟨(unq lp2).toArray⟩ : Str) = b) (ec : (⟨(unq lq).toArray⟩ : Str) = c) (ed : (⟨(unq lq2).toArray⟩ : Str) = d)
  (hp256 : ∀ c ∈ p.cps.toList, c < 256) (hpn : 0 < p.length) (hsp : p.length ≤ 100000) (hsp2 : (turnOf p).length ≤ 100000) (hq256 : ∀ c ∈ q.cps.toList, c < 256) (hqn : 0 < q.length) (hsq : q.length ≤ 100000) (hsq2 : (turnOf q).length ≤ 100000)
  (hshape : SeqAt.shaped (PyData.list [PyData.str a, PyData.str b, PyData.str c, PyData.str d]) = true) :
  ∀ (K0 : Below callerA h₀ [] h₀) (X : (hd1.heap_39 w.params).In h₀) (T : Top hd1.view_39 (looseW hd1.view_39 []) mean mg mb h₀)
  (F : Fr h₀ L s.heap (fun y => if y = Str.ofString "told" then some (.ref R) else if y = Str.ofString "whole" then some (.str x tx) else if y = Str.ofString "halves" then some (.ref H) else if y = Str.ofString "names" then some (.ref D) else m y))
  (N : News h₀ L s.heap [(R, W.listOf #[.str p t0, .str q t1] 0), (H, oh), (D, LCg.lst [.str a t4, .str b t5, .str c t6, .str d t7])]) (hlt : D < H) (hlt2 : H < R) (hlt3 : D < R)
  (k : ∀ (h' : Heap) (tk : Nat), Fr h₀ L h' (fun y => if y = Str.ofString "told" then some (.ref R) else if y = Str.ofString "whole" then some (.str x tx) else if y = Str.ofString "halves" then some (.ref H) else if y = Str.ofString "names" then some (.ref D) else m y) →
    Q (.ret (.bool true)) { s with heap := h', toks := tk }),
  wpR (model PySem.Challenge.rw_pe0048_01.row.prog w) (callerA.deeper (envOf law1_d.name law1_d.scope L fa cd)) (execs law1_d.body.tail.tail.tail.tail.tail.tail (envOf law1_d.name law1_d.scope L fa cd)) Q (fun _ _ => False) s := by
  k_fill
  dsimp only [law1_d, recOf, List.tail_cons]
  intro K0 X T F N hlt hlt2 hlt3 k
  refine R_stmtR (R_return (R_cmpE (ListComp_two F (by with_unfolding_all rfl) (by decide) (by rfl) (by decide) (by rfl) (by rfl) (by decide) ?_)))
  walk1
  refine ⟨R, #[.str p t0, .str q t1], 2, _, rfl, rfl, F, N, .inr ⟨_, List.Mem.head _, rfl, _, rfl⟩, rfl, ?_⟩
  intro g
  intro v I oI C oC D1 m₂ h tk hv hC hx F1 N1 off ne
  simp only [LCg.Off3, and_true] at off
  obtain rfl : Value.str p t0 = v := Option.some.inj hv
  refine R_list (R_args_cons (wpR_of_any ?_))
  iterate 8 (first | walk1 | (dsimp only; walk1))
  refine p257_c w mean mg mb _ p _ _ hp hsp _ _ _ _ _ fa cd [] [] callerA h₀ h₀ L _ _ _ _ K0 (by assumption) X (by assumption) T rfl trivial (by decide) (by decide) ?_
  intro v1 g1 tk1 F2 N2
  rw [ea]
  refine R_args_cons (R_Call ?_)
  walk1
  refine R_args_fn (R_args_cons (R_Call ?_))
  walk1
  refine R_args_fn (R_args_cons (wpR_of_any ?_))
  walk1
  refine R_args_nil ⟨isFn_K X (by assumption) (by k_is), ?_⟩
  refine turned_c w mean mg mb p _ hp256 hpn hsp _ _ _ _ _ _ fa cd [] [] callerA h₀ h₀ L _ _ _ _ K0 (by assumption) X (by assumption) T rfl (by decide) (by decide) ?_
  intro v2 g2 tk2 F3 N3
  refine R_args_nil ⟨isFn_K X (by assumption) (by k_is), ?_⟩
  refine wpR_of_any ?_
  refine p257_c w mean mg mb _ (turnOf p) _ _ hp2 hsp2 _ _ _ _ _ fa cd [] [] callerA h₀ h₀ L _ _ _ _ K0 (by assumption) X (by assumption) T rfl trivial (by decide) (by decide) ?_
  intro v3 g3 tk3 F4 N4
  rw [eb]
  refine R_args_nil ?_
  dsimp only
  walk1
  rename Fr h₀ L _ _ => F9
  rename News h₀ L _ _ => N9
  refine ⟨_, _, (_, W.listOf #[.str a v1, .str b v3] 0) :: [(R, W.listOf #[.str p t0, .str q t1] 0), (H, oh), (D, LCg.lst [.str a t4, .str b t5, .str c t6, .str d t7])], _, #[.str a v1, .str b v3], 0, rfl, rfl, F9, cb_drop N9 (by lcg_sub), (by lcg_off), .inr ⟨_, by k_mem, rfl, _, rfl⟩, List.Mem.head _, Nat.le_of_ble_eq_true rfl, ?_⟩
  intro v I oI C oC D1 m₂ h tk hv hC hx F1 N1 off ne
  simp only [LCg.Off3, and_true] at off
  obtain rfl : Value.str q t1 = v := Option.some.inj hv
  refine R_list (R_args_cons (wpR_of_any ?_))
  iterate 8 (first | walk1 | (dsimp only; walk1))
  refine p257_c w mean mg mb _ q _ _ hq hsq _ _ _ _ _ fa cd [] [] callerA h₀ h₀ L _ _ _ _ K0 (by assumption) X (by assumption) T rfl trivial (by decide) (by decide) ?_
  intro u1 g1 tk1 F2 N2
  rw [ec]
  refine R_args_cons (R_Call ?_)
  walk1
  refine R_args_fn (R_args_cons (R_Call ?_))
  walk1
  refine R_args_fn (R_args_cons (wpR_of_any ?_))
  walk1
  refine R_args_nil ⟨isFn_K X (by assumption) (by k_is), ?_⟩
  refine turned_c w mean mg mb q _ hq256 hqn hsq _ _ _ _ _ _ fa cd [] [] callerA h₀ h₀ L _ _ _ _ K0 (by assumption) X (by assumption) T rfl (by decide) (by decide) ?_
  intro u2 g2 tk2 F3 N3
  refine R_args_nil ⟨isFn_K X (by assumption) (by k_is), ?_⟩
  refine wpR_of_any ?_
  refine p257_c w mean mg mb _ (turnOf q) _ _ hq2 hsq2 _ _ _ _ _ fa cd [] [] callerA h₀ h₀ L _ _ _ _ K0 (by assumption) X (by assumption) T rfl trivial (by decide) (by decide) ?_
  intro u3 g3 tk3 F4 N4
  rw [ed]
  refine R_args_nil ?_
  dsimp only
  walk1
  rename Fr h₀ L _ _ => F9
  rename News h₀ L _ _ => N9
  refine ⟨_, _, (_, W.listOf #[.str c u1, .str d u3] 0) :: (_, W.listOf #[.str a v1, .str b v3] 0) :: [(R, W.listOf #[.str p t0, .str q t1] 0), (H, oh), (D, LCg.lst [.str a t4, .str b t5, .str c t6, .str d t7])], _, #[.str c u1, .str d u3], 0, rfl, rfl, F9, cb_drop N9 (by lcg_sub), (by lcg_off), .inr ⟨_, by k_mem, rfl, _, rfl⟩, List.Mem.head _, Nat.le_of_ble_eq_true rfl, ?_⟩
  unfold Rest2 LCg.FinE
  intro D9 h9 tk9 F8 N8 o9
  simp only [LCg.Off1, and_true] at o9
  simp only [List.nil_append, List.cons_append] at N8
  dsimp only
  walk1
  k_dflt (refine eq_dataH (by ke_read) (by ke_read) ?_ ?_ (by ke_room) ?_)
  · exact hshape
  · exact hshape
  simp only [PyData.eqv, PyData.eqvAll, beq_self_eq_true, Bool.and_true]
  exact k _ _ F8
end Mine
end
theorem Mine.off_Plain1 : True := by
  w_top off
  trivial
section
open PySem PySem.W PyProof.Rows PySem.Calls
set_option Elab.async false
set_option maxRecDepth 100000
namespace Mine
/-- what lies in the reply behind its first five signs -/
def bodyOf (a b : Str) : List Nat := StrLaws.dbl 34 a.cps.toList ++ 34 :: 32 :: 45 :: 32 :: 34 :: ((StrLaws.dbl 34 b.cps.toList).reverse ++ [34, 32, 55, 53, 50])
theorem bothOf_cps (a b : Str) : (bothOf a b).cps.toList = 50 :: 53 :: 55 :: 32 :: 34 :: bodyOf a b := by
  have e1 : (Str.ofString "257 \"").cps = #[50, 53, 55, 32, 34] := by decide +kernel
  have e2 : (Str.ofString "\" - \"").cps = #[34, 32, 45, 32, 34] := by decide +kernel
  have e3 : (Str.ofString "\" 752").cps = #[34, 32, 55, 53, 50] := by decide +kernel
  unfold bothOf bodyOf
  show (((((Str.ofString "257 \"").cps ++ (dq a).cps) ++ (Str.ofString "\" - \"").cps) ++ (rev (dq b)).cps) ++ (Str.ofString "\" 752").cps).toList = _
  rw [e1, e2, e3]
  simp only [Array.toList_append, rev, Array.toList_reverse, dq_cps]
  simp
theorem unq_dbl : ∀ (l r : List Nat) (d : Nat), d ≠ 34 → unq (StrLaws.dbl 34 l ++ 34 :: d :: r) = l
  | [], r, d, hd => by simp only [StrLaws.dbl, List.nil_append]; exact unq_end r hd
  | c :: l, r, d, hd => by
    by_cases hc : c = 34
    · subst hc
      have : StrLaws.dbl 34 (34 :: l) = 34 :: 34 :: StrLaws.dbl 34 l := by simp [StrLaws.dbl]
      rw [this, List.cons_append, List.cons_append, unq_two, unq_dbl l r d hd]
    · have : StrLaws.dbl 34 (c :: l) = c :: StrLaws.dbl 34 l := by simp [StrLaws.dbl, hc]
      rw [this, List.cons_append, unq_plain _ hc, unq_dbl l r d hd]
theorem unq_body (a b : Str) : (⟨(unq (bodyOf a b)).toArray⟩ : Str) = a := by
  unfold bodyOf
  rw [unq_dbl _ _ _ (by decide)]
theorem turn_cps {x : Str} (h : ∀ c ∈ x.cps.toList, c < 256) : (turnOf x).cps.toList = x.cps.toList.reverse := by
  unfold turnOf chrs octs
  rw [swp_whole (by simp [Str.length])]
  simp only [Array.toList_map, Array.toList_reverse, List.map_reverse, List.map_map]
  congr 1
  refine (List.map_congr_left (g := id) fun c hc => ?_).trans (List.map_id _)
  have := h c hc
  simp only [Function.comp_apply, id]
  exact UInt8.toNat_ofNat_of_lt' (by simpa using this)
theorem ext {x y : Str} (h : x.cps.toList = y.cps.toList) : x = y := by
  obtain ⟨⟨a⟩⟩ := x; obtain ⟨⟨b⟩⟩ := y
  simp only at h; rw [h]
theorem turn_both {a b : Str} (h : ∀ c ∈ (bothOf a b).cps.toList, c < 256) : turnOf (bothOf a b) = bothOf b a := by
  refine ext ?_
  rw [turn_cps h, bothOf_cps, bothOf_cps]
  unfold bodyOf
  simp
theorem mem_dbl {c : Nat} : ∀ {l : List Nat}, c ∈ StrLaws.dbl 34 l → c ∈ l
  | [], h => by simp [StrLaws.dbl] at h
  | d :: l, h => by
    by_cases hd : d = 34
    · subst hd
      have : StrLaws.dbl 34 (34 :: l) = 34 :: 34 :: StrLaws.dbl 34 l := by simp [StrLaws.dbl]
      rw [this] at h
      simp only [List.mem_cons] at h ⊢
      rcases h with h | h | h
      · exact .inl h
      · exact .inl h
      · exact .inr (mem_dbl h)
    · have : StrLaws.dbl 34 (d :: l) = d :: StrLaws.dbl 34 l := by simp [StrLaws.dbl, hd]
      rw [this] at h
      simp only [List.mem_cons] at h ⊢
      rcases h with h | h
      · exact .inl h
      · exact .inr (mem_dbl h)
def Small (x : Str) : Prop := ∀ c ∈ x.cps.toList, c < 256
theorem both_small {a b : Str} (ha : Small a) (hb : Small b) : Small (bothOf a b) := by
  intro c hc
  rw [bothOf_cps] at hc
  unfold bodyOf at hc
  simp only [List.mem_cons, List.mem_append, List.mem_reverse, List.not_mem_nil, or_false] at hc
  rcases hc with h | h | h | h | h | h | h | h | h | h | h | h | h | h | h | h | h
  all_goals first | omega | exact ha c (mem_dbl h) | exact hb c (mem_dbl h)
theorem both_len {a b : Str} : (bothOf a b).length ≤ 2 * a.length + 2 * b.length + 15 := by
  have h := congrArg List.length (bothOf_cps a b)
  unfold bodyOf at h
  have h1 := dbl_length_le 34 a.cps.toList
  have h2 := dbl_length_le 34 b.cps.toList
  simp only [List.length_cons, List.length_append, List.length_reverse, List.length_nil, Array.length_toList] at h h1 h2
  show (bothOf a b).cps.size ≤ 2 * a.cps.size + 2 * b.cps.size + 15
  omega
theorem both_pos {a b : Str} : 0 < (bothOf a b).length := by
  have h := congrArg List.length (bothOf_cps a b)
  simp only [List.length_cons, Array.length_toList] at h
  show 0 < (bothOf a b).cps.size
  omega
theorem both_not {a b : Str} : (Txt.slice (bothOf a b) none (some 3) != Str.ofString "229") = true := by
  rw [show (3 : Int) = ((3 : Nat) : Int) from rfl, slice_to (by rw [bothOf_cps]; simp), bothOf_cps]
  simp only [List.take_succ_cons, List.take_zero]
  decide +kernel
theorem small_ok {x : Str} (h : Small x) : PyData.strOk x = true := by
  unfold PyData.strOk
  rw [Array.all_eq_true_iff_forall_mem]
  intro c hc
  have := h c (by simpa using hc)
  simp only [decide_eq_true_eq]
  omega
theorem item_small {x : Str} (hx : Small x) (i : Int) : Small (Txt.item x i) ∧ (Txt.item x i).length ≤ 1 := by
  refine ⟨fun c hc => ?_, Nat.le_refl _⟩
  have hc' : c = (Txt.charAt x i).getD 0 := by simpa [Txt.item] using hc
  cases hq : Txt.charAt x i with
  | none => rw [hq] at hc'; simp at hc'; omega
  | some d =>
    rw [hq] at hc'
    simp only [Option.getD_some] at hc'
    subst hc'
    unfold Txt.charAt at hq
    obtain ⟨j, _, hj⟩ := Option.bind_eq_some_iff.mp hq
    exact hx c (by rw [← Array.getElem?_toList] at hj; exact List.mem_of_getElem? hj)
theorem join_small : ∀ ts : List Str, (∀ t ∈ ts, Small t ∧ t.length ≤ 1) → Small (Str.join (Str.ofString "") ts) ∧ (Str.join (Str.ofString "") ts).length ≤ ts.length
  | [], _ => ⟨fun c hc => by simp [Str.join, Str.empty] at hc, Nat.le_refl _⟩
  | [x], h => h x (List.Mem.head _)
  | x :: y :: r, h => by
    have ih := join_small (y :: r) fun t ht => h t (List.mem_cons_of_mem _ ht)
    have hx := h x (List.Mem.head _)
    have e : (Str.ofString "").cps = #[] := by decide +kernel
    have e2 : (Str.join (Str.ofString "") (x :: y :: r)).cps.toList = x.cps.toList ++ (Str.join (Str.ofString "") (y :: r)).cps.toList := by
      show ((x.cps ++ (Str.ofString "").cps) ++ (Str.join (Str.ofString "") (y :: r)).cps).toList = _
      rw [e]; simp
    refine ⟨fun c hc => ?_, ?_⟩
    · rw [e2] at hc
      rcases List.mem_append.mp hc with hc | hc
      · exact hx.1 c hc
      · exact ih.1 c hc
    · have := congrArg List.length e2
      simp only [List.length_append, Array.length_toList] at this
      have h1 := hx.2
      have h2 := ih.2
      unfold Str.length at *
      simp only [List.length_cons] at *
      omega
theorem name_small (x : Int) : Small (nameOf x) ∧ (nameOf x).length ≤ 4 := by
  have hs : Small (Str.ofString "\"a/é") := by
    have e : (Str.ofString "\"a/é").cps = #[34, 97, 47, 233] := by decide +kernel
    intro c hc
    rw [e] at hc
    simp at hc
    omega
  have h1 : 0 ≤ x.fmod 5 := Int.fmod_nonneg_of_pos x (by decide)
  have h2 : x.fmod 5 < 5 := Int.fmod_lt_of_pos x (by decide)
  unfold nameOf
  show Small (Builtin.Str.glued _ _) ∧ (Builtin.Str.glued _ _).length ≤ 4
  rw [StrLaws.glued_eq_join]
  have := join_small ((List.range (x.fmod 5).toNat).map fun k => Txt.item (Str.ofString "\"a/é") (((x.fdiv 5).fdiv (4 ^ k)).fmod 4)) fun t ht => by
    obtain ⟨k, _, rfl⟩ := List.mem_map.mp ht
    exact item_small hs _
  refine ⟨this.1, Nat.le_trans this.2 ?_⟩
  rw [List.length_map, List.length_range]
  omega
theorem shape2 {p q : Str} (hp : Small p) (hq : Small q) : SeqAt.shaped (PyData.list [PyData.str p, PyData.str q]) = true := by
  simp [SeqAt.shaped, PyData.canLay0, PyData.canLayAll0, PyData.depth, PyData.depthAll, small_ok hp, small_ok hq]
theorem shape4 {a b c d : Str} (ha : Small a) (hb : Small b) (hc : Small c) (hd : Small d) : SeqAt.shaped (PyData.list [PyData.str a, PyData.str b, PyData.str c, PyData.str d]) = true := by
  simp [SeqAt.shaped, PyData.canLay0, PyData.canLayAll0, PyData.depth, PyData.depthAll, small_ok ha, small_ok hb, small_ok hc, small_ok hd]
end Mine
end
theorem Mine.off_Main1 : True := by
  w_top off
  trivial
section
open PySem PySem.W PyProof.Rows PySem.Calls
set_option Elab.async false
set_option maxRecDepth 100000
set_option maxHeartbeats 8000000
namespace Mine
theorem call_fullR {prog : Program} {w : World} {A : Around} {R : Result → Shared → Prop} {s : Shared} {name : Str} {params : Arguments} {body : List Stmt} {scope : Scope}
    {dV kV pm cd doc : Value} {a : Addr} {o : Obj} {args : Args} {binds : List (Str × Value)}
    (hroom : A.depth < recursionLimit) (ho : s.heap.get? a = some o) (hdata : o.data = .func { docDef name params body scope pm cd doc with defaults := dV, kwdefaults := kV }) (hlim : s.heap.NoLimit) (hcd : s.heap.CodeRec cd name)
    (hbind : BindsTo s { docDef name params body scope pm cd doc with defaults := dV, kwdefaults := kV } args binds)
    (hloc : ∀ x ∈ binds, scope.names.lookup x.1 = some .local)
    (h : ∀ h₁, Fr s.heap s.heap.objs.size h₁ (fun x => binds.reverse.lookup x) →
      wpR (model prog w) (A.deeper (envOf name scope s.heap.objs.size a cd)) (execs body (envOf name scope s.heap.objs.size a cd))
        (fun f s' => R (.ok (.ret (match f with | .ret v => v | _ => .none))) s') (fun _ _ => False)
        { s with heap := h₁, toks := s.toks + binds.length })
    (hco : scope.isCoroutine = false := by rfl) (hgen : scope.isGenerator = false := by rfl) (hk : scope.kind = .function := by rfl)
    (hcell : ∀ x ∈ scope.names, x.2 ≠ .cell := by decide) :
    codeR (model prog w) A (.call (.ref a) args) R s :=
  codeR_call_def hroom ho hdata hlim hcd rfl hbind hcell hloc (fun h₁ hns hkeep => wpR_mono (h h₁ ⟨hns, hkeep, Nat.le_refl _⟩) (fun _ _ x => x) fun _ _ x => x.elim) hco hgen hk
/-- the law's whole body -/
theorem law_body (w : World) (mean : ExcName → Option Value) (mg mb : Str → Option Value) (h₀ : Heap) (L fa ax : Addr) (cd : Value) (vs : List Value) (is : List Int) (s : Shared) (Q : Flow → Shared → Prop)
    (K0 : Below callerA h₀ [] h₀) (X : (hd1.heap_39 w.params).In h₀) (T : Top hd1.view_39 (looseW hd1.view_39 []) mean mg mb h₀)
    (F : Fr h₀ L s.heap (fun y => List.lookup y [(Str.ofString "script", Value.ref ax)].reverse)) (N : News h₀ L s.heap []) (hL : h₀.IsList ax vs.toArray) (hI : IntsAre vs is) (hn : ¬((63 : Nat) : Int) < (is.length : Int))
    (k : ∀ (h' : Heap) (tk : Nat) (m' : Str → Option Value), Fr h₀ L h' m' → Q (.ret (.bool true)) { s with heap := h', toks := tk }) :
    wpR (model PySem.Challenge.rw_pe0048_01.row.prog w) (callerA.deeper (envOf law1_d.name law1_d.scope L fa cd)) (execs law1_d.body (envOf law1_d.name law1_d.scope L fa cd)) Q (fun _ _ => False) s := by
  refine stage1 w mean mg mb h₀ L fa ax cd vs is s Q K0 X T F N hL hI hn fun D n0 n1 n2 n3 t0 t1 t2 t3 h1 tk1 F1 N1 => ?_
  refine stage2 w mean mg mb h₀ L fa ax D cd n0 n1 n2 n3 t0 t1 t2 t3 _ Q K0 X T F1 N1 fun E u0 u1 u2 u3 h2 tk2 F2 N2 => ?_
  obtain ⟨sa, la⟩ := name_small n0
  obtain ⟨sb, lb⟩ := name_small n1
  obtain ⟨sc, lc⟩ := name_small n2
  obtain ⟨sd, ld⟩ := name_small n3
  generalize nameOf n0 = a at *
  generalize nameOf n1 = b at *
  generalize nameOf n2 = c at *
  generalize nameOf n3 = d at *
  refine stage3 w mean mg mb h₀ L fa E cd a b c d u0 u1 u2 u3 _ Q _ (by omega) (by omega) (by omega) (by omega) K0 X T F2 N2 fun H v0 v1 h3 tk3 F3 N3 lt1 => ?_
  have lp := both_len (a := a) (b := b)
  have lq := both_len (a := c) (b := d)
  have sp := both_small sa sb
  have sq := both_small sc sd
  refine stage4 w mean mg mb h₀ L fa E H cd (bothOf a b) (bothOf c d) v0 v1 _ Q _ _ (by omega) (by omega) K0 X T F3 N3 lt1 fun tx h4 tk4 F4 N4 => ?_
  have lx := both_len (a := bothOf a b) (b := bothOf c d)
  have ly := both_len (a := bothOf c d) (b := bothOf a b)
  have sx := both_small sp sq
  have ex := turn_both sx
  refine stage5 w mean mg mb h₀ L fa E H cd _ (bodyOf (bothOf a b) (bothOf c d)) (bodyOf (bothOf c d) (bothOf a b)) tx _ Q _ _ _ (bothOf_cps _ _) (by rw [ex]; exact bothOf_cps _ _) sx both_pos (by omega) (by rw [ex]; omega) K0 X T F4 N4 lt1 fun R w0 w1 h5 tk5 F5 N5 lt2 lt3 => ?_
  rw [unq_body, unq_body] at N5
  refine stage6 w mean mg mb h₀ L fa E H R cd _ (bothOf a b) (bothOf c d) tx w0 w1 v0 v1 _ Q _ _ sx both_pos (by omega) (by rw [ex]; omega) (shape2 sp sq) (by omega) (by omega) both_not (by rw [ex]; exact both_not) both_not both_not K0 X T F5 N5 lt1 lt2 lt3 fun h6 tk6 F6 N6 => ?_
  have ep := turn_both sp
  have eq := turn_both sq
  have lp' := both_len (a := b) (b := a)
  have lq' := both_len (a := d) (b := c)
  exact stage7 w mean mg mb h₀ L fa E H R cd _ (bothOf a b) (bothOf c d) a b c d (bodyOf a b) (bodyOf b a) (bodyOf c d) (bodyOf d c) tx w0 w1 u0 u1 u2 u3 _ Q _ _ (bothOf_cps _ _) (by rw [ep]; exact bothOf_cps _ _) (bothOf_cps _ _) (by rw [eq]; exact bothOf_cps _ _)
    (unq_body _ _) (unq_body _ _) (unq_body _ _) (unq_body _ _) sp both_pos (by omega) (by rw [ep]; omega) sq both_pos (by omega) (by rw [eq]; omega) (shape4 sa sb sc sd) K0 X T F6 N6 lt1 lt2 lt3 fun h7 tk7 F7 => k h7 tk7 _ F7
theorem main : PySem.Challenge.rw_pe0048_01.Holds := by
  refine hd1 ?_
  k_fill
  intro w s₀ s₁ mg mb G Y fa o pm cd doc dV kV ho hd hcd hD hmg hg args vals as hpre hlay hrd hwl hlo
  have KX := kIn_of Y
  refine Ground.open G ?_
  intro T B D TE TW
  clear hmg
  wrow_args hpre hlay hrd hwl hlo
  refine wpR_call ?_
  have K0 := below_caller s₁.heap
  have he := Dflts.none hD rfl; subst he
  refine call_fullR (by decide) ho hd (Top.nolimit T) hcd (BindsTo.of_eq rfl) (locs rfl) fun h₁ F => ?_
  w_binds F
  have N0 := (News.nil : News _ _ _ []).at F
  refine law_body w _ mg mb s₁.heap s₁.heap.objs.size fa _ cd _ _ _ _ K0 KX T F N0 (by assumption) (by assumption) (by assumption) fun h' tk m' F' => ?_
  refine GoodW.toG ?_
  refine goodW_bool F' hg (raisesW_false ?_) ?_
  · wrow_none_raised
  · wrow_post
end Mine
end
theorem PySem.Challenge.cw_pe0048_01_holds : PySem.Challenge.rw_pe0048_01.Holds := by
  exact Mine.main

import PyProof.Rows.All
import Wide.All
import OpenK.AllK
import Wide.FinOn
import Lean
import PySem.Challenge.RW_in0200_01
set_option Elab.async false
set_option compiler.extract_closed false
section
open PySem PySem.W PySem.Spec PySem.Calls PyProof.Rows
namespace Mine
set_option maxRecDepth 100000
/-- a code that lends no bytearray as a decoder -/
def okCode : Code → Bool
  | .builtin id _ => !PySem.Builtin.Bytes.decodersThatHold.contains id
  | _ => true
def Clean (l : List (Code × Pos)) : Prop := ∀ x ∈ l, okCode x.1 = true

/-- as wpAny, of the contexts that hold no decoder -/
def wpN {α : Type} (M : Model) (A : Around) (t : Sem α) (Q : α → Shared → Prop) (E : Value → Shared → Prop) (s : Shared) : Prop :=
  ∀ Γ p, Γ.In A → okCode Γ.code = true → Clean Γ.below → Sem.wp M Γ t (fun a _ s' => Q a s') (fun e _ s' => E e s') p s
/-- as codeAny, of the contexts that hold no decoder -/
def codeN (M : Model) (A : Around) (c : Code) (R : Result → Shared → Prop) (s : Shared) : Prop :=
  ∀ Γ p, Γ.code = c → Γ.Below A → Clean Γ.below → wpCode M Γ R p s

section
variable {α β : Type} {M : Model} {A : Around} {E : Value → Shared → Prop} {s : Shared}
theorem wpN_of {t : Sem α} {Q : α → Shared → Prop} (h : wpAny M A t Q E s) : wpN M A t Q E s := fun Γ p i _ _ => h Γ p i
theorem codeN_of {c : Code} {R : Result → Shared → Prop} (h : codeAny M A c R s) : codeN M A c R s := fun Γ p i b _ => h Γ p i b
theorem wpN_mono {t : Sem α} {Q Q' : α → Shared → Prop} {E' : Value → Shared → Prop} (h : wpN M A t Q E s)
    (hQ : ∀ a s, Q a s → Q' a s) (hE : ∀ e s, E e s → E' e s) : wpN M A t Q' E' s :=
  fun Γ p hΓ c b => Sem.wp_mono M Γ t (fun a _ s => hQ a s) (fun e _ s => hE e s) p s (h Γ p hΓ c b)
theorem wpN_bind {m : Sem α} {f : α → Sem β} {Q : β → Shared → Prop} (h : wpN M A m (fun a s' => wpN M A (f a) Q E s') E s) :
    wpN M A (m >>= f) Q E s := fun Γ p hΓ c b => by
  rw [Sem.wp_bind']
  exact Sem.wp_mono M Γ m (fun a p' s' h' => h' Γ p' hΓ c b) (fun _ _ _ h' => h') p s (h Γ p hΓ c b)
theorem wpN_onRaise {m : Sem α} {k : Value → Sem Unit} {Q : α → Shared → Prop}
    (h : wpN M A m Q (fun e s' => wpN M A (k e) (fun _ s'' => E e s'') E s') s) : wpN M A (m.onRaise k) Q E s := fun Γ p hΓ c b => by
  rw [Sem.wp_onRaise]
  exact Sem.wp_mono M Γ m (fun _ _ _ h' => h') (fun e p' s' h' => h' Γ p' hΓ c b) p s (h Γ p hΓ c b)
theorem wpN_holding {vs : List Value} {m : Sem α} {Q : α → Shared → Prop} (h : wpN M A m Q E s) : wpN M A (holding vs m) Q E s :=
  fun Γ p hΓ c b => by rw [Sem.wp_holding]; exact h Γ p hΓ c b
theorem wpN_pure {a : α} {Q : α → Shared → Prop} (h : Q a s) : wpN M A (pure a) Q E s := fun _ _ _ _ _ => h
/-- the stack holds no decoder -/
theorem wpN_stack {Q : List (Code × Pos) → Shared → Prop}
    (h : ∀ st : List (Code × Pos), (∀ g, A.guards = some g → guardsOf st = g) → Clean st → Q st s) : wpN M A stack Q E s := fun Γ p hΓ c b => by
  show Q ((Γ.code, p) :: Γ.below) s
  refine h _ (fun g hg => by rw [guardsOf_cons]; exact hΓ.2.2.2.1 g hg) fun x hx => ?_
  rcases List.mem_cons.mp hx with rfl | hx
  · exact c
  · exact b x hx
theorem wpN_runValue {c : Code} {Q : Value → Shared → Prop}
    (hc : codeN M A c (fun r s' => match r with | .ok (.ret v) => Q v s' | .ok _ => False | .error e => E e s') s) :
    wpN M A (runValue c) Q E s := fun Γ p hΓ k b => by
  rw [Sem.wp_runValue]
  exact hc _ p rfl (hΓ.enter c none p (by intro x; cases x)) fun x hx => by
    rcases List.mem_cons.mp hx with rfl | hx
    · exact k
    · exact b x hx
theorem wpN_call {f : Value} {pos : List Value} {kw : List (Str × Value)} {Q : Value → Shared → Prop}
    (hc : codeN M A (.call f ⟨pos, kw⟩) (fun r s' => match r with | .ok (.ret v) => Q v s' | .ok _ => False | .error e => E e s') s) :
    wpN M A (call f pos kw) Q E s := wpN_runValue hc
theorem codeN_mono {c : Code} {R R' : Result → Shared → Prop} (h : codeN M A c R s) (hR : ∀ r s, R r s → R' r s) : codeN M A c R' s :=
  fun Γ p hc hΓ b => wpCode_mono hR (h Γ p hc hΓ b)
theorem codeN_of_tree {c : Code} {R : Result → Shared → Prop} (ok : okCode c = true)
    (h : wpN M (A.under c) (M.den c) (fun fin s' => match fin with | .done f => R (.ok f) s' | .again c' => c'.quiet = true ∧ codeN M A c' R s')
      (fun e s' => R (.error e) s') s) : codeN M A c R s := fun Γ p hc hΓ b => by
  rw [wpCode_iff_wp, hc]
  refine Sem.wp_mono M Γ _ (fun fin p' s' h' => ?_) (fun _ _ _ h' => h') p s (h Γ p (hc ▸ hΓ.in) (by rw [hc]; exact ok) b)
  cases fin with
  | done f => exact h'
  | again c' => exact ⟨h'.1, h'.2 (Γ.goto c') p' rfl (hΓ.goto c') b⟩
end

section
variable {prog : Program} {w : World} {A : Around} {s : Shared} {R : Result → Shared → Prop}
theorem codeN_call_function {a : Addr} {args : Args} {o : Obj} {fd : FuncData} {body : List Stmt} (hroom : A.depth < recursionLimit)
    (ho : s.heap.get? a = some o)
    (hd' : o.data = .func fd) (hco : fd.scope.isCoroutine = false) (hgen : fd.scope.isGenerator = false) (hbody : fd.body = .stmts body) (hcd : s.heap.CodeRec fd.code fd.qualname)
    (h : wpAny (model prog w) A.in1 (bindArgs fd args) (fun binds s₁ =>
      wpAny (model prog w) A.in1 (newFunctionEnv fd.scope fd.globals fd.closure binds (fd.qualname ++ ".<locals>.") (some a) fd.code none fd.builtins)
        (fun env s₂ => s₂.heap.NoLimit ∧ codeN (model prog w) A (.func body env) R s₂) (fun e s' => R (.error e) s') s₁) (fun e s' => R (.error e) s') s) :
    codeN (model prog w) A (.call (.ref a) args) R s := by
  refine codeN_of_tree rfl (wpN_of ?_)
  show wpAny _ A.in1 (callAny (.ref a) args) _ _ s
  simp only [callAny]
  refine wpAny_bind (wpAny_load ho ?_)
  obtain ⟨c, oc, vs, tq, hc, hoc, hdc, hq⟩ := hcd
  simp only [hd', callFunction, hco, hgen, hbody, hc]
  rw [hc] at h
  refine wpAny_bind (m := field (.ref c) 1) (wpAny_field hoc hdc hq (wpAny_bind (wpAny_pure ?_)))
  exact wpAny_bind (wpAny_mono h (fun binds s₁ h₁ => wpAny_bind (wpAny_mono h₁ (fun env s₂ h₂ => wpAny_bind (wpAny_enterFrame h₂.1 hroom
    (wpAny_pure (And.intro rfl h₂.2)))) fun _ _ h' => h')) fun _ _ h' => h')
theorem codeN_func {body env}
    (h : wpN (model prog w) (A.deeper env) (execs body env) (fun f s' => R (.ok (.ret (match f with | .ret v => v | _ => .none))) s')
      (fun e s' => wpAny (model prog w) (A.deeper env) (leaving env e) (fun _ s'' => R (.error e) s'') (fun e' s'' => R (.error e') s'') s') s) :
    codeN (model prog w) A (.func body env) R s := by
  refine codeN_of_tree rfl ?_
  show wpN _ (A.deeper env) (do point; match ← (execs body env).onRaise (leaving env) with | .ret v => ret v | _ => ret .none) _ _ s
  refine wpN_bind (wpN_of (wpAny_point (wpN_bind (wpN_onRaise (wpN_mono h (fun f s' h' => ?_) fun _ _ h' => wpN_of h')))))
  cases f <;> exact wpN_pure h'
theorem codeN_call_def {a : Addr} {o : Obj} {fd : FuncData} {body : List Stmt} {args : Args} {binds : List (Str × Value)}
    (hroom : A.depth < recursionLimit) (ho : s.heap.get? a = some o) (hdata : o.data = .func fd) (hlim : s.heap.NoLimit) (hcd : s.heap.CodeRec fd.code fd.qualname)
    (hbody : fd.body = .stmts body) (hbind : BindsTo s fd args binds)
    (hcell : ∀ x ∈ fd.scope.names, x.2 ≠ .cell) (hloc : ∀ x ∈ binds, fd.scope.names.lookup x.1 = some .local)
    (h : ∀ h₀, h₀.Ns s.heap.objs.size (fun x => binds.reverse.lookup x) → (∀ b o, s.heap.get? b = some o → h₀.get? b = some o) →
      wpN (model prog w) (A.deeper (callEnv fd s.heap.objs.size a)) (execs body (callEnv fd s.heap.objs.size a)) (fun f s' => R (.ok (.ret (match f with | .ret v => v | _ => .none))) s')
        (fun e s' => wpAny (model prog w) (A.deeper (callEnv fd s.heap.objs.size a)) (leaving (callEnv fd s.heap.objs.size a) e) (fun _ s'' => R (.error e) s'') (fun e' s'' => R (.error e') s'') s')
        { s with heap := h₀, toks := s.toks + binds.length })
    (hco : fd.scope.isCoroutine = false := by rfl) (hgen : fd.scope.isGenerator = false := by rfl) (hk : fd.scope.kind = .function := by rfl) :
    codeN (model prog w) A (.call (.ref a) args) R s := by
  refine codeN_call_function hroom ho hdata hco hgen hbody hcd (hbind _ _ _ _ ?_)
  refine wpAny_newFunctionEnv hcell hloc (fun h₀ hns₀ hsb₀ => ⟨hlim.fresh _ hsb₀, codeN_func (h h₀ hns₀ fun b o e => ?_)⟩) hk
  exact hsb₀.extBut b o (Nat.ne_of_lt (Heap.lt_size e)) (Heap.get?_push_of_some _ e)
end

section
/-- the head, for a walk of the contexts that hold no decoder -/
theorem thread_ends_N {prog : Program} {w : World} {t : Sem Fin} {s : Shared} {R : Result → Shared → Prop} (hreg : s.asleep)
    (h : wpN (model prog w) callerA t (fun fin s' => ∃ f, fin = .done f ∧ (R (.ok f) s' ∧ leftWithCleanup s'.gens = false)) (fun e s' => R (.error e) s' ∧ leftWithCleanup s'.gens = false) s) :
    ∃ n r s' s'', runN (denote table) prog w n s ⟨t, .builtin "claim.caller" {}, default, []⟩ = .halted (outcomeOf r) s' ∧
      schedN (denote table) prog w n (.single s ⟨t, .builtin "claim.caller" {}, default, []⟩) = .halted (outcomeOf r) s' ∧ s'.forget = s''.forget ∧ R r s'' := by
  have h0 : Sem.wp (model prog w) ⟨.builtin "claim.caller" {}, none, none, [], none⟩ t (Sem.finPost (model prog w) ⟨.builtin "claim.caller" {}, none, none, [], none⟩ fun r s' => R r s' ∧ leftWithCleanup s'.gens = false)
      (fun e _ s' => R (.error e) s' ∧ leftWithCleanup s'.gens = false) default s := by
    refine Sem.wp_mono _ _ t (fun fin p' s' h' => ?_) (fun _ _ _ h' => h') default s (h _ default caller_in (by decide +kernel) (fun x hx => nomatch hx))
    obtain ⟨f, rfl, hf⟩ := h'
    exact hf
  obtain ⟨n, r, s₁, s₂, hs, hn, hfo, hR⟩ := wp_halts_full (M := model prog w) (R := R) hreg h0
  exact ⟨n, r, s₂, s₁, hn, hs, hfo, hR⟩

theorem callFrom_of_specS {c : ClaimW} {tree : List Value → Sem Fin} {w : World} {s : Shared} {free : Addr → Prop} {gens : Prop} {kept : Heap → Prop} (hz : s.asleep) (hgens : s.gens = #[])
    (hspec : ∀ args, c.pre args = true → WData.layableAll args = true →
      ∀ ord : List DictEntry → List DictEntry, (∀ l, (ord l).Perm l) →
      ∃ vs s₁, layAllW c.records (classAt s.heap) w.params ord args s = some (vs, s₁) ∧
        wpN (model c.prog w) callerA (tree vs) (fun fin s' => ∃ f, fin = .done f ∧ (c.Ends s args vs s₁ (.ok f) s' ∧ s'.os = s.os ∧ AllBare s'.gens ∧ kept s'.heap))
          (fun e s' => c.Ends s args vs s₁ (.error e) s' ∧ s'.os = s.os ∧ AllBare s'.gens ∧ kept s'.heap) s₁) :
    c.CallFrom (fun vs => ⟨tree vs, .builtin "claim.caller" {}, default, []⟩) w free gens kept s := by
  intro args hpre hlay ord hord
  obtain ⟨vs, s₁, hlaid, hcode⟩ := hspec args hpre hlay ord hord
  have hal := layAllW_rest _ _ _ hlaid
  obtain ⟨k, r, s', s'', hrun, hsched, hfo, hcase, hos, hkp⟩ := thread_ends_N (prog := c.prog) (w := w) (t := tree vs) (s := s₁)
    (R := fun r s' => c.Ends s args vs s₁ r s' ∧ s'.os = s.os ∧ kept s'.heap)
    (Shared.asleep_of_life hal.2.2.2 hz)
    (wpN_mono hcode (by
      rintro fin s' ⟨f, e, h1, h2, h3, h4⟩
      exact ⟨f, e, ⟨h1, h2, h4⟩, leftWithCleanup_false_of_bare h3⟩) (by
      rintro e s' ⟨h1, h2, h3, h4⟩
      exact ⟨⟨h1, h2, h4⟩, leftWithCleanup_false_of_bare h3⟩))
  obtain ⟨eh, _, _, eo, _⟩ := Shared.forget_eq hfo
  have hcase := hcase.congr eh
  have hkp : kept s'.heap := by first | exact eh ▸ hkp | (rw [eh] at hkp; exact hkp) | (rw [← eh] at hkp; exact hkp)
  rw [← eo] at hos
  have hlife : s'.heap.life = s.heap.life := (runN_life _ _ _ hrun).trans hal.2.2.2
  refine ⟨vs, s₁, hlaid, k, _, s', hsched, ?_, (fun _ i x hx => by rw [hgens] at hx; simp at hx), hkp, by rw [hlife], Shared.rest_eq hos⟩
  rcases hcase with ⟨v, rfl, d1, d2, d3, d4, d5⟩ | ⟨e, ob, cls, rfl, d1, d2, d3, d4, d5⟩
  · exact .inl ⟨v, rfl, d1, d2, d3, fun b o y _ => d4 b o y, d5⟩
  · exact .inr ⟨e, ob, cls, rfl, d1, d2, d3, d4, fun b o y _ => d5 b o y⟩

abbrev WalkS (q : Program) (loose : List Str) (XP : (Str → Option Value) → Heap → Prop) (YP : World → Heap → Prop) (r : RowW) (d : DefRec) (kwd : List (Str × Expr)) : Prop :=
  ∀ (w : World) (s₀ s₁ : Shared) (mg mb : Str → Option Value), Ground q loose r.records XP w s₀ mg mb s₁.heap → YP w s₁.heap → ∀ (a : Addr) (o : Obj) (pm cd doc dV kV : Value), s₁.heap.get? a = some o →
    o.data = .func { docDef d.name d.params d.body d.scope pm cd doc with defaults := dV, kwdefaults := kV } → s₁.heap.CodeRec cd d.name → Dflts mg s₁.heap d.params kwd dV kV → mg d.name = some (.ref a) → s₁.gens = #[] →
    ∀ (args : List WData) (vals : List Value) (as : List Addr), r.claim.pre args = true → WData.layableAll args = true → ReadsAllW r.records (classAt s₀.heap) s₁.heap vals args as → WellAll w.params s₁.heap vals args → (∀ a ∈ as, (a == sysModules) = false) →
      wpN (model r.prog w) callerA (PySem.call (.ref a) vals) (fun v s' => GoodWG r.claim (classAt s₀.heap) (ExcName.means s₀.heap) args s₁ (.ok (.ret v)) s')
        (fun e s' => GoodWG r.claim (classAt s₀.heap) (ExcName.means s₀.heap) args s₁ (.error e) s') s₁
theorem open_anyS {r : RowW} {run : Value → List Value → Sem Value} {tree : List Value → Sem Fin} {q : Program} {loose defs kps : List Str} {writes : Bool} {Xt : Shared → Bool} {XP : (Str → Option Value) → Heap → Prop} {α : Type} {Yf : Shared → α} {Ya : World → α} {YP : World → Heap → Prop} {N : Nat}
    (left : LeftO r.prog q loose Xt Yf Ya N) (hY : ∀ w s, Yf s = Ya w → YP w s.heap) (hYk : ∀ w h h', YP w h → (∀ b o, h.get? b = some o → h'.get? b = some o) → YP w h') (hX : ∀ s, Xt s = true → XP (s.heap.nsMap mainGlobals) s.heap) (hXk : ∀ mg h h', XP mg h → (∀ b o, h.get? b = some o → h'.get? b = some o) → XP mg h')
    (hRf : ∀ s, Xt s = true → RecFacts r.records s.heap) (hwr : (!writes || r.records.isEmpty) = true) (ok : (chainsOk q && opensWell r.prog && (frees r && r.within.isEmpty)) = true) (hb : r.prog.bare) (hw : r.promised)
    (ht : ∀ vs (w : World) (s : Shared) mg f (Q : Fin → Shared → Prop) (E : Value → Shared → Prop), s.heap.Ns mainGlobals mg → mg r.name = some f → wpN (model r.prog w) callerA (run f vs) (fun v s' => Q (.done (.ret v)) s') E s → wpN (model r.prog w) callerA (tree vs) Q E s)
    (pin : ∀ w s, s.heap.isNs mainGlobals = true → Ground q loose [] XP w s (s.heap.nsMap mainGlobals) (s.heap.nsMap builtinsNs) s.heap → ∀ n ∈ defs, isTheDefsW r.prog s.heap n)
    (call : ∀ (w : World) (s₀ s₁ : Shared) (mg mb : Str → Option Value), Ground q loose r.records XP w s₀ mg mb s₁.heap → YP w s₁.heap → ∀ (args : List WData) (vs : List Value) (as : List Addr),
      r.claim.pre args = true → WData.layableAll args = true → Laid r.records w s₀ s₁ args vs as → sysModules < s₀.heap.objs.size → ∃ f, mg r.name = some f ∧
        wpN (model r.prog w) callerA (run f vs) (fun v s' => GoodWG r.claim (classAt s₀.heap) (ExcName.means s₀.heap) args s₁ (.ok (.ret v)) s')
          (fun e s' => GoodWG r.claim (classAt s₀.heap) (ExcName.means s₀.heap) args s₁ (.error e) s') s₁) : r.claim.HoldsOpenBy (fun vs => ⟨tree vs, .builtin "claim.caller" {}, default, []⟩) defs kps writes := by
  obtain ⟨ok, k5⟩ := Bool.and_eq_true_iff.mp ok
  obtain ⟨hch, o1⟩ := Bool.and_eq_true_iff.mp ok
  obtain ⟨k5, k6⟩ := Bool.and_eq_true_iff.mp k5
  obtain ⟨hsame, hu, ha, hap, hm⟩ := frees_parts k5
  refine ⟨⟨hb, o1, by show r.makers.map _ = []; rw [hm]; rfl⟩, hw.witness, fun w => ⟨(left.behind hX hch w).1, fun s' hs' => ?_⟩⟩
  obtain ⟨s₀, hf, hg0, s, hT, hz, hgens, hg, G00, y⟩ := (left.behind (XP := fun mg h => XP mg h ∧ RecFacts r.records h) (fun s hs => ⟨hX s hs, hRf s hs⟩) hch w).2 s' hs'
  have G0 : Ground q loose [] XP w s (s.heap.nsMap mainGlobals) (s.heap.nsMap builtinsNs) s.heap := ⟨G00.T, G00.B, G00.D, G00.TE, G00.TD, G00.W, G00.X.1, G00.cls, G00.has, G00.apart, G00.once, G00.K⟩
  have RF := G00.X.2
  have hT' := hT
  refine ⟨s₀, hf, hg0, s, hT, pin w s hg G0, RF.1, RF.2.1, ?_⟩
  have hgens : s.gens = #[] := Array.eq_empty_of_size_eq_zero (beq_iff_eq.mp hgens)
  have G : Ground q loose r.records XP w s _ _ s.heap := RF.ground G0
  refine callFrom_of_specS (c := r.claim) hz hgens fun args hpre hlay ord hord => ?_
  obtain ⟨⟨vs, s₁⟩, hlaid⟩ := Option.isSome_iff_exists.mp (layAllW_isSome (P := w.params) (ord := ord) G.has args r.args s (pre_splitW hpre).1)
  have keeps := layAllW_keeps _ _ _ hlaid
  have hal := layAllW_rest _ _ _ hlaid
  obtain ⟨as, hrd, hin, hold⟩ := reads_layAllW hord _ _ _ hlaid hlay s₁.heap (fun _ _ e => e)
  have L : Laid r.records w s s₁ args vs as := ⟨⟨ord, hord, hlaid⟩, hrd, hin, hold, keeps, hal.1.trans hgens, hal.2.2.1⟩
  have G₁ := G.keeps hXk keeps
  obtain ⟨f, hf, h⟩ := call w s s₁ _ _ G₁ (hYk _ _ _ (hY w s y) keeps) args vs as hpre hlay L G.low
  have hi := ident_freeW hu ha hap
  have hwi : r.claim.within = [] := List.isEmpty_iff.mp k6
  exact ⟨vs, s₁, hlaid, ht vs w s₁ _ f _ _ G₁.T.g hf (wpN_mono h (fun v s' g => ⟨_, rfl, have z := g.laid (c := r.claim) hsame hwi hi L; ⟨z.1, z.2.1, z.2.2, fun q => ⟨namesKept_of hT' hg kps keeps g.2.1.old, noTable hwr q⟩⟩⟩) fun e s' g => have z := g.laid (c := r.claim) hsame hwi hi L; ⟨z.1, z.2.1, z.2.2, fun q => ⟨namesKept_of hT' hg kps keeps g.2.1.old, noTable hwr q⟩⟩)⟩
end
end Mine
end
section
open PySem PySem.W PySem.Spec PySem.Calls PyProof.Rows
namespace Mine
set_option maxRecDepth 100000
theorem PySem.W.holds_open {r : OpenRow} {q : Program} {loose : List Str} {Xt : Shared → Bool} {XP : (Str → Option Value) → Heap → Prop} {α : Type} {Yf : Shared → α} {Ya : World → α} {YP : World → Heap → Prop} {d : DefRec} {kwd : List (Str × Expr)} {N : Nat}
    (left : LeftO r.prog q loose Xt Yf Ya N) (hY : ∀ w s, Yf s = Ya w → YP w s.heap) (hYk : ∀ w h h', YP w h → (∀ b o, h.get? b = some o → h'.get? b = some o) → YP w h')
    (hX : ∀ s, Xt s = true → XP (s.heap.nsMap mainGlobals) s.heap) (hXk : ∀ mg h h', XP mg h → (∀ b o, h.get? b = some o → h'.get? b = some o) → XP mg h')
    (hdef : defOf q r.name = some (d, kwd)) (hp : r.prog.theDef r.name = some (d.params, d.body, d.scope)) (hk : kwWritten? d.params.kwonlyargs d.params.kw_defaults = some kwd) (hRf : ∀ s, Xt s = true → RecFacts r.records s.heap) (hwr : (!r.writes || r.records.isEmpty) = true)
    (k1 : r.wellSaid = true) (ok : (chainsOk q && opensWell r.prog && (frees r.toRowW && r.within.isEmpty)) = true) (hb : r.prog.bare) (hw : r.toRowW.promised)
    (call : WalkS q loose XP YP r.toRowW d kwd) : r.Holds := by
  refine ⟨k1, hw, open_anyS (r := r.toRowW) (run := fun f vs => _root_.PySem.call f vs) (tree := fun vs => do match ← nsGet mainNs r.name with
      | some f => do ret (← _root_.PySem.call f vs)
      | none => unsupported "claim.caller:no-such-global") left hY hYk hX hXk hRf hwr ok hb hw
    (fun vs w s mg f Q E hg hf h => wpN_bind (wpN_of (wpAny_nsGet hg (by rw [hf]; exact wpN_bind (wpN_mono h (fun _ _ x => wpN_pure x) fun _ _ x => x)))))
    (fun w s hg G n hn => ?_) fun w s₀ s₁ mg mb G Y args vs as hpre hlay L low => ?_⟩
  · obtain rfl : n = r.name := by split at hn <;> simp_all
    exact pinned_of_view hg G hdef hp hk
  · obtain ⟨a, o, pm, cd, doc, dV, kV, h1, h2, h3, h4, h5⟩ := G.fn hdef
    exact ⟨.ref a, h1, call w s₀ s₁ mg mb G Y a o pm cd doc dV kV h2 h3 h4 h5 (defOf_name hdef ▸ h1) L.gens args vs as hpre hlay L.reads L.well (L.low low)⟩
end Mine
end
section
open PySem PySem.W PySem.Spec PySem.Calls PyProof.Rows
namespace Mine
set_option maxRecDepth 100000
theorem through (_ : Hook) {r : OpenRow} (_ : r.toRowW.promised) (hc : r.Holds) : r.Holds := hc
section
local macro_rules | `(tactic| o_head $H) => `(tactic| refine through $H ?hw ?hc)
set_option maxHeartbeats 8000000 in
open_top kk for _root_.PySem.Challenge.rw_in0200_01.row
end
/-- the walker's mark for the topmost call is set by the line above: off again -/
theorem walk_off : True := by
  w_top off
  trivial
end Mine
end
section
open PySem PySem.W PySem.Spec PySem.Calls PyProof.Rows
namespace Mine
set_option maxRecDepth 100000
/-- a mark that lets k_fill find the row and the written part -/
def Fill (_ : OpenLaw) (_ : Params → Frag) : Prop := True
abbrev Led := List (Addr × Obj)
abbrev arr (dp un : Nat) (gd : Option (List Code)) (fr : List Env) : Around := { handled := none, depth := dp, frames := some fr, guards := gd, units := un }

/-- the heap that a callee finds unchanged: all but the objects of H -/
abbrev gOf (h : Heap) (H : Led) : Heap := hideAll h (H.map (·.1))
/-- what of the heap stays, H apart -/
def Stay (H : Led) (h h' : Heap) : Prop := ∀ b o, b ∉ H.map (·.1) → h.get? b = some o → h'.get? b = some o

/-- what a call finds -/
structure Site (K : Frag) (dp un : Nat) (gd : Option (List Code)) (fr : List Env) (g : Heap) : Prop where
  below : ∃ base, Below (arr dp un gd fr) base fr g
  part : K.In g
  top : ∃ p loose mean mg mb, Top p loose mean mg mb g

/-- A contract of a call: it may change the objects of H alone; it hands back a value of which Post is so (of the heap before, the value, the heap behind). -/
def Ctr (w : World) (K : Frag) (f : Value) (vs : List Value) (H : Led) (Pre : Heap → Prop) (Post : Heap → Value → Heap → Prop) (d u : Nat) : Prop :=
  ∀ (dp un : Nat) (gd : Option (List Code)) (fr : List Env) (s : Shared) (R : Result → Shared → Prop),
    Site K dp un gd fr (gOf s.heap H) → (∀ p ∈ H, s.heap.get? p.1 = some p.2) → Pre s.heap → dp + d < recursionLimit → un + u < cLine →
    (∀ (v : Value) (h' : Heap) (tk' : Nat), Stay H s.heap h' → Post s.heap v h' → R (.ok (.ret v)) { s with heap := h', toks := tk' }) →
    codeAny (model PySem.Challenge.rw_in0200_01.row.prog w) (arr dp un gd fr) (.call f ⟨vs, []⟩) R s

/-- the end of a body -/
def DoneC (g : Heap) (L : Addr) (s : Shared) (P : Value → Heap → Prop) (fl : Flow) (s' : Shared) : Prop :=
  ∃ h' tk' m', s' = { s with heap := h', toks := tk' } ∧ Fr g L h' m' ∧ P (match fl with | .ret v => v | _ => .none) h'
theorem DoneC.intro {g h' : Heap} {L : Addr} {s : Shared} {P : Value → Heap → Prop} {v : Value} {tk' : Nat} {m' : Str → Option Value} (F : Fr g L h' m') (p : P v h') : DoneC g L s P (.ret v) { s with heap := h', toks := tk' } :=
  ⟨h', tk', m', rfl, F, p⟩
theorem DoneC.next {g h' : Heap} {L : Addr} {s : Shared} {P : Value → Heap → Prop} {tk' : Nat} {m' : Str → Option Value} (F : Fr g L h' m') (p : P .none h') : DoneC g L s P .next { s with heap := h', toks := tk' } :=
  ⟨h', tk', m', rfl, F, p⟩

theorem stay_g {H : Led} {h : Heap} {b : Addr} {o : Obj} (n : b ∉ H.map (·.1)) (e : h.get? b = some o) : (gOf h H).get? b = some o := hideAll_get _ e n

theorem ctr_enter {w : World} {K : Frag} {f : Addr} {vs : List Value} {H : Led} {Pre : Heap → Prop} {Post : Heap → Value → Heap → Prop} {d u : Nat}
    {name qual : Str} {params : Arguments} {body : List Stmt} {scope : Scope} {dV kV doc pm cdv ct oc : Value} {an od : Option Addr} {osl : Array (Option Value)}
    (binds : List (Str × Value))
    (ho : K.lookup f = some ⟨oc, od, .func (fnOf name qual params body scope dV kV doc pm an cdv ct), osl⟩) (hcd : codeIn K cdv qual = true) 
    (hbind : ∀ s : Shared, K.In s.heap → BindsTo s (fnOf name qual params body scope dV kV doc pm an cdv ct) ⟨vs, []⟩ binds) (hloc : ∀ y ∈ binds, scope.names.lookup y.1 = some .local)
    (h : ∀ (dp un : Nat) (gd : Option (List Code)) (fr : List Env) (base g : Heap) (p : Program) (loose : List Str) (mean : ExcName → Option Value) (mg mb : Str → Option Value) (s : Shared) (L' : Addr) (h₁ : Heap) (tk : Nat),
      Stay H s.heap g → Below (arr dp un gd fr) base fr g → K.In g → Top p loose mean mg mb g → (∀ p ∈ H, s.heap.get? p.1 = some p.2) → Pre s.heap → dp + d < recursionLimit → un + u < cLine →
      (∀ b o, g.get? b = some o → s.heap.get? b = some o) →
      Fr g L' h₁ (fun y => binds.reverse.lookup y) → News g L' h₁ H → (∀ p ∈ H, p.1 < L') →
      wpAny (model PySem.Challenge.rw_in0200_01.row.prog w) ((arr dp un gd fr).deeper (envOf qual scope L' f cdv)) (execs body (envOf qual scope L' f cdv))
        (DoneC g L' s (Post s.heap)) (fun _ _ => False) { s with heap := h₁, toks := tk })
    (hcell : ∀ x ∈ scope.names, x.2 ≠ .cell := by decide) (hco : scope.isCoroutine = false := by rfl) (hgen : scope.isGenerator = false := by rfl) (hk : scope.kind = .function := by rfl) :
    Ctr w K (.ref f) vs H Pre Post d u := by
  rintro dp un gd fr s R ⟨⟨base, B⟩, X, ⟨p, loose, mean, mg, mb, T⟩⟩ hH hpre hdp hun hret
  have keep : ∀ b o, (gOf s.heap H).get? b = some o → s.heap.get? b = some o := fun b o e => of_hideAll _ e
  have Xs : K.In s.heap := X.keeps keep
  have hroom : (arr dp un gd fr).depth < recursionLimit := Nat.lt_of_le_of_lt (Nat.le_add_right _ _) hdp
  refine codeAny_call_def (fd := fnOf name qual params body scope dV kV doc pm an cdv ct) (body := body) (binds := binds) hroom (Xs _ _ ho) rfl (T.nolimit.keeps keep) (codeRec_of Xs hcd) rfl (hbind s Xs) hcell hloc (fun h₁ hns hk₁ => ?_) hco hgen hk
  refine wpAny_mono (h dp un gd fr base (gOf s.heap H) p loose mean mg mb s s.heap.objs.size h₁ _ (fun b o n e => stay_g n e) B X T hH hpre hdp hun keep ⟨hns, fun b o e => hk₁ b o (keep b o e), Nat.le_of_eq (hideAll_size _ _)⟩
    (fun p hp => ⟨hk₁ _ _ (hH p hp), Nat.ne_of_lt (Heap.lt_size (hH p hp)), hideAll_none _ (List.mem_map_of_mem hp)⟩) (fun p hp => Heap.lt_size (hH p hp))) (fun fl s' hl => ?_) fun _ _ y => y.elim
  obtain ⟨h', tk', m', rfl, F', hp⟩ := hl
  exact hret _ h' tk' (fun b o n e => F'.keep b o (stay_g n e)) hp

/-- the site, out of a walk's facts -/
theorem site_of {K : Frag} {A₀ : Around} {base h₀ : Heap} {outer : List Env} {env : Env} {L : Addr} {m : Str → Option Value} {s : Shared} {H : Led} {dp un : Nat} {gd : Option (List Code)}
    {p : Program} {loose : List Str} {mean : ExcName → Option Value} {mg mb : Str → Option Value}
    (B : Below A₀ base outer h₀) (F : Fr h₀ L s.heap m) (X : K.In h₀) (N : News h₀ L s.heap H) (T : Top p loose mean mg mb h₀) (hf : env.frame = some L) (hke : env.scope.kind = .function) :
    Site K dp un gd (env :: outer) (gOf s.heap H) := by
  obtain ⟨FG, BG, st, lv⟩ := groundX (R := fun _ _ => True) (A := arr dp un gd (env :: outer)) B F N rfl hf hke
  exact ⟨⟨base, BG⟩, X.keeps st, ⟨p, loose, mean, mg, mb, T.keeps st⟩⟩

theorem none_of_stay {h g : Heap} {a : Addr} (st : Stay [] h g) (e : g.get? a = none) : h.get? a = none := by
  cases q : h.get? a with
  | none => rfl
  | some o =>
    have := st a o (fun h => nomatch h) q
    rw [e] at this
    cases this
/-- a frame behind a call -/
theorem Fr.stay {h₀ h h' : Heap} {L : Addr} {m : Str → Option Value} {H : Led} (F : Fr h₀ L h m) (N : News h₀ L h H) (st : Stay H h h') : Fr h₀ L h' m := by
  have nL : L ∉ H.map (·.1) := fun q => by
    obtain ⟨p, hp, e⟩ := List.mem_map.mp q
    exact (N p hp).2.1 e
  obtain ⟨oL, es, ep, hL, r⟩ := F.ns
  refine ⟨⟨oL, es, ep, st _ _ nL hL, r⟩, fun b o e => st b o (fun q => ?_) (F.keep b o e), F.above⟩
  obtain ⟨p, hp, rfl⟩ := List.mem_map.mp q
  have := (N p hp).2.2
  rw [e] at this; cases this
theorem News.stay {h₀ h h' : Heap} {L : Addr} {H news : Led} (N : News h₀ L h news) (st : Stay H h h') (off : ∀ p ∈ news, p.1 ∉ H.map (·.1)) : News h₀ L h' news :=
  fun p hp => ⟨st _ _ (off p hp) (N p hp).1, (N p hp).2⟩
theorem News.cons {h₀ h : Heap} {L : Addr} {news : Led} {a : Addr} {o : Obj} (N : News h₀ L h news) (e : h.get? a = some o) (n : a ≠ L) (f : h₀.get? a = none) : News h₀ L h ((a, o) :: news) :=
  fun p hp => by rcases List.mem_cons.mp hp with rfl | hp; exact ⟨e, n, f⟩; exact N p hp
theorem News.app {h₀ h : Heap} {L : Addr} {a b : Led} (N : News h₀ L h a) (N' : News h₀ L h b) : News h₀ L h (a ++ b) :=
  fun p hp => (List.mem_append.mp hp).elim (N p) (N' p)
/-- an object that the call made -/
theorem new_of {h₀ h h' : Heap} {L : Addr} {m : Str → Option Value} (F : Fr h₀ L h m) {a : Addr} {o : Obj} (e : h'.get? a = some o) (f : h.get? a = none) : h'.get? a = some o ∧ a ≠ L ∧ h₀.get? a = none := by
  refine ⟨e, fun q => ?_, ?_⟩
  · obtain ⟨oL, _, _, hL, _⟩ := F.ns
    rw [q, hL] at f; cases f
  · cases q : h₀.get? a with
    | none => rfl
    | some o => rw [F.keep _ _ q] at f; cases f
end Mine
namespace Mine
/-- a contract at a call of a walk -/
theorem ctr_use {w : World} {K : Frag} {f : Value} {vs : List Value} {H : Led} {Pre : Heap → Prop} {Post : Heap → Value → Heap → Prop} {d u : Nat}
    (C : Ctr w K f vs H Pre Post d u) {A₀ : Around} {base h₀ : Heap} {outer : List Env} {env : Env} {L : Addr} {m : Str → Option Value} {s : Shared} {news : Led} {dp un : Nat} {gd : Option (List Code)}
    {p : Program} {loose : List Str} {mean : ExcName → Option Value} {mg mb : Str → Option Value} {Q E : Value → Shared → Prop}
    (B : Below A₀ base outer h₀) (F : Fr h₀ L s.heap m) (X : K.In h₀) (N : News h₀ L s.heap news) (T : Top p loose mean mg mb h₀) (hf : env.frame = some L) (hke : env.scope.kind = .function)
    (sub : ∀ p ∈ H, p ∈ news) (hpre : Pre s.heap) (hd : dp + d < recursionLimit) (hu : un + u < cLine)
    (ret : ∀ (v : Value) (h' : Heap) (tk' : Nat), Fr h₀ L h' m → (∀ ns : Led, (∀ p ∈ ns, p ∈ news ∧ p.1 ∉ H.map (·.1)) → News h₀ L h' ns) → Stay H s.heap h' →
      (∀ a o, h'.get? a = some o → s.heap.get? a = none → a ≠ L ∧ h₀.get? a = none) → Post s.heap v h' → Q v { s with heap := h', toks := tk' }) :
    wpAny (model PySem.Challenge.rw_in0200_01.row.prog w) (arr dp un gd (env :: outer)) (call f vs) Q E s := by
  have NH : News h₀ L s.heap H := fun p hp => N p (sub p hp)
  refine wpAny_call (C dp un gd (env :: outer) s _ (site_of B F X NH T hf hke) (fun p hp => (NH p hp).1) hpre hd hu fun v h' tk' st hp => ?_)
  exact ret v h' tk' (Fr.stay F NH st) (fun ns hns => News.stay (fun p hp => N p (hns p hp).1) st fun p hp => (hns p hp).2) st (fun a o e n => ⟨(new_of F e n).2.1, (new_of F e n).2.2⟩) hp
/-- the same where nothing of the ledger is touched -/
theorem ctr_use0 {w : World} {K : Frag} {f : Value} {vs : List Value} {Pre : Heap → Prop} {Post : Heap → Value → Heap → Prop} {d u : Nat}
    (C : Ctr w K f vs [] Pre Post d u) {A₀ : Around} {base h₀ : Heap} {outer : List Env} {env : Env} {L : Addr} {m : Str → Option Value} {s : Shared} {news : Led} {dp un : Nat} {gd : Option (List Code)}
    {p : Program} {loose : List Str} {mean : ExcName → Option Value} {mg mb : Str → Option Value} {Q E : Value → Shared → Prop}
    (B : Below A₀ base outer h₀) (F : Fr h₀ L s.heap m) (X : K.In h₀) (N : News h₀ L s.heap news) (T : Top p loose mean mg mb h₀) (hf : env.frame = some L) (hke : env.scope.kind = .function)
    (hpre : Pre s.heap) (hd : dp + d < recursionLimit) (hu : un + u < cLine)
    (ret : ∀ (v : Value) (h' : Heap) (tk' : Nat), Fr h₀ L h' m → News h₀ L h' news → (∀ b o, s.heap.get? b = some o → h'.get? b = some o) →
      (∀ a o, h'.get? a = some o → s.heap.get? a = none → a ≠ L ∧ h₀.get? a = none) → Post s.heap v h' → Q v { s with heap := h', toks := tk' }) :
    wpAny (model PySem.Challenge.rw_in0200_01.row.prog w) (arr dp un gd (env :: outer)) (call f vs) Q E s :=
  ctr_use C B F X N T hf hke (fun _ h => nomatch h) hpre hd hu fun v h' tk' F' N' st fresh hp => ret v h' tk' F' (N' news fun p hp => ⟨hp, fun h => nomatch h⟩) (fun b o e => st b o (fun h => nomatch h) e) fresh hp
end Mine
end
section
open PySem PySem.W PySem.Spec PySem.Calls PyProof.Rows
namespace Mine
set_option maxRecDepth 100000
set_option maxHeartbeats 1000000
namespace FE
theorem ends : "Exception.__new__".endsWith ".__new__" = true := by decide +kernel
theorem owner : "Exception.__new__".dropRight 8 = "Exception" := by decide +kernel
theorem entry : entryFor table "Exception.__new__" = some Builtin.«BaseException.__new__» := by
  exact entryFor_alias (id' := "BaseException.__new__") (by kernel_rfl) (by first | rfl | decide +kernel) (by decide +kernel) (by kernel_rfl)
theorem sub : isSubtype (.type "AttributeError") (.type "AttributeError") = pure true := sub_AttributeError
theorem subE : isSubtype (.type "AttributeError") (.type "Exception") = pure true := by rw [isSubtype_type]; kernel_rfl
theorem made : Bind.madeHere "BaseException.__new__" (.type "AttributeError") = pure () := by kernel_rfl
theorem notType : (Value.type "AttributeError" == Value.type "type") = false := by decide +kernel
theorem noVector (args : Args) : checkTypeCall "AttributeError" args = pure () := by kernel_rfl
theorem mro : ∃ m, mroOf (.type "AttributeError") = pure m ∧ m.isEmpty = false := ⟨[.type "AttributeError", .type "Exception", .type "BaseException", .type "object"], by rw [mroOf_type]; kernel_rfl, rfl⟩
theorem mro' : mroOf (.type "AttributeError") = pure [.type "AttributeError", .type "Exception", .type "BaseException", .type "object"] := by rw [mroOf_type]; kernel_rfl
theorem lookup_new : typeLookup (.type "AttributeError") "__new__" = pure (some (.builtin "Exception.__new__")) := by rw [typeLookup_type, builtinLookup_eq_fast]; kernel_rfl
theorem madeBy : Bind.madeBy (.type "AttributeError") = pure (some "Exception.__new__") := madeBy_type mro' lookup_new ends
theorem newOk (rest : List Value) : checkBuiltinCall "Exception.__new__" ⟨.type "AttributeError" :: rest, []⟩ = pure () := by kernel_rfl
theorem init : Slot "AttributeError" "__init__" "AttributeError.__init__" :=
  .of (owner := "AttributeError") (n := "__init__") (by rw [typeLookup_type, builtinLookup_eq_fast]; kernel_rfl) (by decide +kernel) (by decide +kernel) (by decide +kernel)
    (by first | exact .inl (by decide +kernel) | exact .inr (by decide +kernel)) (by rw [isSubtype_type]; kernel_rfl)
theorem initEntry : entryFor table "AttributeError.__init__" = some Builtin.«AttributeError.__init__» := entryFor_of_tree (by kernel_rfl)
theorem initArgs (a b : Value) : argsOk "AttributeError.__init__" ⟨[a, b], []⟩ := by unfold argsOk; kernel_rfl
theorem can : ((Manifest.find? "AttributeError").bind fun x => List.findSome? (fun t => (Manifest.find? t).bind fun b =>
    if b.noNew = true then some true else if (b.attrs.any fun x => x.fst == "__new__") = true then some false else none) x.mro).getD false = false := by decide +kernel
end FE
/-- an AttributeError that the program made -/
structure MadeAE (h h' : Heap) (e t : Addr) (xs : List Value) : Prop where
  keeps : ∀ b o, h.get? b = some o → h'.get? b = some o
  new : h.get? e = none
  newt : h.get? t = none
  there : ∃ u v, h'.get? e = some { cls := .type "AttributeError", data := .fields #[.ref t, .none, .none, .none, .bool false, .none, u, v] }
  args : h'.get? t = some { cls := .type "tuple", data := .seq xs.toArray }
section
variable {prog : Program} {w : World} {A : Around} {R : Result → Shared → Prop}
theorem code_ae_new {rest : List Value} {hp : Heap} {g : Array GenState} {d : Drawn} {tk : Nat} {os : OsState}
    (h : R (.ok (.ret (.ref (hp.objs.size + 1)))) ⟨(hp.push { cls := .type "tuple", data := .seq rest.toArray }).push
      { cls := .type "AttributeError", data := .fields #[.ref hp.objs.size, .none, .none, .none, .bool false, .none, rawInt 0, rawInt 0] }, g, d, tk, os⟩)
    (hrest : rest.length ≤ sizeLine := by size_fits) :
    codeAny (model prog w) A (.builtin "Exception.__new__" ⟨.type "AttributeError" :: rest, []⟩) R ⟨hp, g, d, tk, os⟩ := by
  have hends := FE.ends
  have howner := FE.owner
  have hsub := FE.sub
  have hsubE := FE.subE
  have hmade := FE.made
  refine codeAny_builtinAt FE.entry ?_
  unfold Builtin.«BaseException.__new__»
  refine _root_.PySem.wpAt_bind ?_
  show PySem.wpAt _ _ _ (stack >>= _) _ _ _
  refine _root_.PySem.wpAt_bind (_root_.PySem.wpAt_stack fun p below => wpAt_of_wpAny ?_)
  wp_walk
  refine wpAt_of_wpAny ?_
  rw [howner]
  wp_walk
  show R _ _
  rw [Heap.size_push]
  exact h
theorem call_ae {x : Value} {E : Value → Shared → Prop} {Q : Value → Shared → Prop} {hp : Heap} {g : Array GenState} {d : Drawn} {tk : Nat} {os : OsState}
    (h : ∀ h' e t, MadeAE hp h' e t [x] → Q (.ref e) ⟨h', g, d, tk, os⟩) :
    wpAny (model prog w) A (call (.type "AttributeError") [x]) Q E ⟨hp, g, d, tk, os⟩ := by
  refine wpAny_call (codeAny_of_tree ?_)
  show wpAny _ _ (again (.builtin "type.__call__" ⟨.type "AttributeError" :: [x], []⟩)) _ _ _
  refine wpAny_pure ⟨Code.quiet_builtin _ (by decide +kernel), codeAny_builtin entry_typeCall ?_⟩
  have hnt := FE.notType
  have hcan := FE.can
  have hchk := FE.noVector ⟨[x], []⟩
  obtain ⟨m, hmro, hne⟩ := FE.mro
  have hmade := FE.madeBy
  wp_walk
  refine codeAny_call_builtin_code (Code.quiet_builtin _ (by decide +kernel)) (wpAny_of_eq (FE.newOk [x]) ?_)
  refine code_ae_new ?_
  show wpAny _ _ _ _ _ _
  have hget : ((hp.push { cls := .type "tuple", data := .seq [x].toArray }).push
      { cls := .type "AttributeError", data := .fields #[.ref hp.objs.size, .none, .none, .none, .bool false, .none, rawInt 0, rawInt 0] }).get? (hp.objs.size + 1) = some
      { cls := .type "AttributeError", data := .fields #[.ref hp.objs.size, .none, .none, .none, .bool false, .none, rawInt 0, rawInt 0] } := by heap_get
  refine wpAny_bind (wpAny_isInstance ⟨_, hget, rfl⟩ FE.sub ?_)
  wp_step
  refine wpAny_bind (wpAny_holding (wpAny_callSpecial?_slot ⟨_, hget, rfl⟩ FE.init (wpAny_call (codeAny_call_builtin FE.init.plain FE.initEntry (FE.init.check _ _ _ _ _ _ _ _ ⟨_, hget, rfl⟩ (FE.initArgs _ _) ?_)))))
  unfold Builtin.«AttributeError.__init__»
  unfold Builtin.Exceptions.excInitWithMembers Builtin.Exceptions.excPut Builtin.Exceptions.excOwnKeywords Builtin.Exceptions.excSetOwn
  wp_walk
  refine h _ _ (hp.objs.size + 2) ⟨fun b o hb => ?_, Heap.get?_none_of_le (Nat.le_succ _), Heap.get?_none_of_le (by (first | lia | omega)), ⟨Builtin.Exceptions.excUnset, Builtin.Exceptions.excUnset, ?_⟩, ?_⟩
  · have hne : hp.objs.size + 1 ≠ b := Nat.ne_of_gt (Nat.lt_succ_of_lt (Heap.lt_size hb))
    rw [Heap.get?_update_other _ _ hne, Heap.get?_update_other _ _ hne, Heap.get?_update_other _ _ hne]
    exact Heap.get?_push_of_some _ (Heap.get?_push_of_some _ (Heap.get?_push_of_some _ hb))
  · rw [Heap.get?_update_self _ (Heap.get?_update_self _ (Heap.get?_update_self _ (Heap.get?_push_of_some _ hget) rfl) rfl) rfl]
    simp only [Heap.size_push]
    rfl
  · have hne : hp.objs.size + 1 ≠ hp.objs.size + 2 := by (first | lia | omega)
    rw [Heap.get?_update_other _ _ hne, Heap.get?_update_other _ _ hne, Heap.get?_update_other _ _ hne]
    exact Heap.get?_push_at (by simp only [Heap.size_push]) rfl
end
end Mine
end
section
open PySem PySem.W PySem.Spec PySem.Calls PyProof.Rows
namespace Mine
set_option maxRecDepth 100000
set_option maxHeartbeats 1000000
section
variable {prog : Program} {w : World} {A : Around} {E : Value → Shared → Prop} {s : Shared}
theorem fmt_loc {v2 : Value} {path r2 : Str} {t tp : Tok} {P : Heap → Prop} {Q : Value → Shared → Prop} (hr : (reprText path).length ≤ 1000) (hr2 : r2.length ≤ 1000)
    (h2 : ∀ (Q : Value → Shared → Prop) (k : Nat), (∀ h' t k', P h' → Q (.str r2 t) { s with heap := h', toks := k' }) → wpAny (model prog w) A.in1 (pyReprObj v2) Q E { s with toks := k })
    (h : ∀ h' t k, P h' → Q (.str (((Str.ofString "Can't get local attribute " ++ reprText path) ++ Str.ofString " on ") ++ r2) t) { s with heap := h', toks := k }) :
    wpAny (model prog w) A (call (.builtin "str.format") [.str (Str.ofString "Can't get local attribute {!r} on {!r}") t, .str path tp, v2]) Q E s := by
  refine wpAny_call (codeAny_call_builtin F.slot_str_format_m.plain F.entry_str_format_m ?_)
  refine F.slot_str_format_m.check _ _ _ _ _ _ _ _ (PySem.typeIs_str _ _ _) (KFm.args_3 _ _ _) ?_
  unfold Builtin.«str.format»
  refine wpAny_bind (wpAny_of_eq (a := (_, _, _)) rfl ?_)
  refine wpAny_bind ?_
  unfold Builtin.Str.buildString
  refine wpAny_bind ?_
  rw [KPc.range_list]
  refine KFm.start ?_
  intro w₁ g₁
  refine KPc.turn ?_
  kpc_if
  kpc_check
  refine wpAny_bind (KFm.field_auto (by kfm_num) (by rfl) ?_)
  refine wpAny_bind (wpAny_holding ?_)
  show wpAny _ _ (pyReprObj (.str path tp)) _ _ _
  refine pyReprObj_str ?_ (by rw [sizeLine_eq]; (first | lia | omega))
  kpc_if
  refine wpAny_bind (wpAny_pure ?_)
  refine wpAny_bind (wpAny_holding (wpAny_of_eq (KFm.formatOf_str _ _) ?_))
  refine wpAny_bind (wpAny_of_eq (a := some _) rfl ?_)
  refine wpAny_pure ?_
  refine KFm.after_field (K := 1000) (by kpc_g) (by kpc_text) (by kpc_obj) hr (by kpc_obj) (by kfm_cat2) (by kfm_rest) ?_
  intro w₂ g₂
  refine KPc.turn ?_
  kpc_if
  kpc_check
  refine wpAny_bind (KFm.field_auto (by kfm_num) (by rfl) ?_)
  refine wpAny_bind (wpAny_holding ?_)
  show wpAny _ _ (pyReprObj v2) _ _ _
  refine h2 _ _ fun h' t' k' p => ?_
  kpc_if
  refine wpAny_bind (wpAny_pure ?_)
  refine wpAny_bind (wpAny_holding (wpAny_of_eq (KFm.formatOf_str _ _) ?_))
  refine wpAny_bind (wpAny_of_eq (a := some _) rfl ?_)
  refine wpAny_pure ?_
  refine KFm.after_field (K := 1000) (by kpc_g) (by kpc_text) (by kpc_obj) hr2 (by kpc_obj) (by kfm_cat2) (by kfm_rest) ?_
  intro w₃ g₃
  refine KPc.turn ?_
  kpc_if
  refine wpAny_pure ?_
  refine wpAny_pure ?_
  refine KPc.finish_ok (by kpc_g) (by decide +kernel) (by first | kpc_text | exact rfl) ?_
  exact fun t k => h h' t k p
theorem fmt_att {v2 : Value} {path r2 : Str} {t tp : Tok} {P : Heap → Prop} {Q : Value → Shared → Prop} (hr : (reprText path).length ≤ 1000) (hr2 : r2.length ≤ 1000)
    (h2 : ∀ (Q : Value → Shared → Prop) (k : Nat), (∀ h' t k', P h' → Q (.str r2 t) { s with heap := h', toks := k' }) → wpAny (model prog w) A.in1 (pyReprObj v2) Q E { s with toks := k })
    (h : ∀ h' t k, P h' → Q (.str (((Str.ofString "Can't get attribute " ++ reprText path) ++ Str.ofString " on ") ++ r2) t) { s with heap := h', toks := k }) :
    wpAny (model prog w) A (call (.builtin "str.format") [.str (Str.ofString "Can't get attribute {!r} on {!r}") t, .str path tp, v2]) Q E s := by
  refine wpAny_call (codeAny_call_builtin F.slot_str_format_m.plain F.entry_str_format_m ?_)
  refine F.slot_str_format_m.check _ _ _ _ _ _ _ _ (PySem.typeIs_str _ _ _) (KFm.args_3 _ _ _) ?_
  unfold Builtin.«str.format»
  refine wpAny_bind (wpAny_of_eq (a := (_, _, _)) rfl ?_)
  refine wpAny_bind ?_
  unfold Builtin.Str.buildString
  refine wpAny_bind ?_
  rw [KPc.range_list]
  refine KFm.start ?_
  intro w₁ g₁
  refine KPc.turn ?_
  kpc_if
  kpc_check
  refine wpAny_bind (KFm.field_auto (by kfm_num) (by rfl) ?_)
  refine wpAny_bind (wpAny_holding ?_)
  show wpAny _ _ (pyReprObj (.str path tp)) _ _ _
  refine pyReprObj_str ?_ (by rw [sizeLine_eq]; (first | lia | omega))
  kpc_if
  refine wpAny_bind (wpAny_pure ?_)
  refine wpAny_bind (wpAny_holding (wpAny_of_eq (KFm.formatOf_str _ _) ?_))
  refine wpAny_bind (wpAny_of_eq (a := some _) rfl ?_)
  refine wpAny_pure ?_
  refine KFm.after_field (K := 1000) (by kpc_g) (by kpc_text) (by kpc_obj) hr (by kpc_obj) (by kfm_cat2) (by kfm_rest) ?_
  intro w₂ g₂
  refine KPc.turn ?_
  kpc_if
  kpc_check
  refine wpAny_bind (KFm.field_auto (by kfm_num) (by rfl) ?_)
  refine wpAny_bind (wpAny_holding ?_)
  show wpAny _ _ (pyReprObj v2) _ _ _
  refine h2 _ _ fun h' t' k' p => ?_
  kpc_if
  refine wpAny_bind (wpAny_pure ?_)
  refine wpAny_bind (wpAny_holding (wpAny_of_eq (KFm.formatOf_str _ _) ?_))
  refine wpAny_bind (wpAny_of_eq (a := some _) rfl ?_)
  refine wpAny_pure ?_
  refine KFm.after_field (K := 1000) (by kpc_g) (by kpc_text) (by kpc_obj) hr2 (by kpc_obj) (by kfm_cat2) (by kfm_rest) ?_
  intro w₃ g₃
  refine KPc.turn ?_
  kpc_if
  refine wpAny_pure ?_
  refine wpAny_pure ?_
  refine KPc.finish_ok (by kpc_g) (by decide +kernel) (by first | kpc_text | exact rfl) ?_
  exact fun t k => h h' t k p
end
end Mine
end
section
open PySem PySem.W PySem.Spec PySem.Calls PyProof.Rows
namespace Mine
set_option maxRecDepth 100000
set_option maxHeartbeats 400000
/-- the names that are asked for -/
abbrev pcs : List Str := [Str.ofString "name", Str.ofString "doc", Str.ofString "obtype", Str.ofString "reader", Str.ofString "", Str.ofString "n"]
theorem pcs_fine {n : Str} (hn : n ∈ pcs) : n.length ≤ 6 ∧ (Txt.slice n none (some 2) == Str.ofString "__") = false ∧ (n == Str.ofString "<locals>") = false := by
  simp only [List.mem_cons, List.not_mem_nil, or_false] at hn
  rcases hn with rfl | rfl | rfl | rfl | rfl | rfl <;> decide +kernel
theorem pe_name (w : World) (n : Str) (hn : n ∈ pcs) (t : Tok) : Ctr w (kk.heap_1 w.params) (.ref 28) [.str n t] [] (fun _ => True) (fun _ v _ => v = .str n t) 1 10 := by
  have : Fill PySem.Challenge.rw_in0200_01 kk.heap_1 := by k_fill; trivial
  clear this
  obtain ⟨hl, h2, -⟩ := pcs_fine hn
  refine ctr_enter [(Str.ofString "n", _)] (by k_is) (by k_is) (fun s X => BindsTo.of_eq rfl) (locs rfl) ?_
  intro dp un gd fr base g p loose mean mg mb s L' h₁ tk st B' X' T' hH hpre hdp hun hg F' N' hlt
  k_steps
  exact DoneC.intro (by assumption) rfl
end Mine
end
section
open PySem PySem.W PySem.Spec PySem.Calls PyProof.Rows PyProof.V
namespace Mine
set_option maxRecDepth 100000
/-- a turn's end -/
def TEnd (h₀ : Heap) (L : Addr) (own : Led) (ic : Value) (Jn : (Str → Option Value) → Led → Prop) (s₁ : Shared) (Q : Flow → Shared → Prop) (f : Flow) (s₂ : Shared) : Prop :=
  match f with
  | .ret v => Q (.ret v) s₂
  | .brk => Q .next s₂
  | _ => ∃ h' tk m' news', s₂ = { s₁ with heap := h', toks := tk } ∧ Fr h₀ L h' m' ∧ News h₀ L h' (own ++ news') ∧ (∀ p ∈ news', p.2.cls ≠ ic) ∧ Jn m' news'
theorem TEnd.next {h₀ h' : Heap} {L : Addr} {own : Led} {ic : Value} {Jn : (Str → Option Value) → Led → Prop} {s₁ : Shared} {Q : Flow → Shared → Prop} {tk : Nat} {m' : Str → Option Value} (news' : Led)
    (F : Fr h₀ L h' m') (N : News h₀ L h' (own ++ news')) (c : ∀ p ∈ news', p.2.cls ≠ ic) (j : Jn m' news') : TEnd h₀ L own ic Jn s₁ Q .next { s₁ with heap := h', toks := tk } := ⟨h', tk, m', news', rfl, F, N, c, j⟩
theorem TEnd.cont {h₀ h' : Heap} {L : Addr} {own : Led} {ic : Value} {Jn : (Str → Option Value) → Led → Prop} {s₁ : Shared} {Q : Flow → Shared → Prop} {tk : Nat} {m' : Str → Option Value} (news' : Led)
    (F : Fr h₀ L h' m') (N : News h₀ L h' (own ++ news')) (c : ∀ p ∈ news', p.2.cls ≠ ic) (j : Jn m' news') : TEnd h₀ L own ic Jn s₁ Q .cont { s₁ with heap := h', toks := tk } := ⟨h', tk, m', news', rfl, F, N, c, j⟩
section
variable {prog : Program} {w : World} {A : Around} {E : Value → Shared → Prop} {s : Shared} {env : Env} {h₀ : Heap} {x : Str} {body : List Stmt} {Q : Flow → Shared → Prop}

/-- a turn's end is what the library's loop asks -/
theorem tend_step {L : Addr} {I : Addr} {own own' : Led} {ic : Value} {J : (Str → Option Value) → Led → Prop} {s₁ s₂ : Shared} {f : Flow} {io : Obj}
    (hI : (I, io) ∈ own) (hic : io.cls = ic) (hsub : ∀ p ∈ own', p ∈ own) (h : TEnd h₀ L own ic J s₁ Q f s₂) :
    LoopStepV h₀ L [I] own' J s₁ (fun v s' => Q (.ret v) s') (fun s' => Q .next s') f s₂ := by
  have fin : (∃ h' tk m' news', s₂ = { s₁ with heap := h', toks := tk } ∧ Fr h₀ L h' m' ∧ News h₀ L h' (own ++ news') ∧ (∀ p ∈ news', p.2.cls ≠ ic) ∧ J m' news') → LoopStepU h₀ L [I] own' J s₁ .next s₂ := by
    rintro ⟨h', tk, m', news', e, F', N', hc, hj⟩
    refine ⟨rfl, h', tk, m', news', e, F', fun p hp => N' p ?_, fun p hp hq => ?_, hj⟩
    · rcases List.mem_append.mp hp with hp | hp
      · exact List.mem_append_left _ (hsub p hp)
      · exact List.mem_append_right _ hp
    · have h1 := (N' p (List.mem_append_right _ hp)).1
      have h2 := (N' _ (List.mem_append_left _ hI)).1
      rw [List.mem_singleton.mp hq] at h1
      have h3 : p.2 = io := Option.some.inj (h1.symm.trans h2)
      exact hc p hp (by rw [h3]; exact hic)
  cases f with
  | ret v => exact h
  | brk => exact h
  | next => exact .next (fin h)
  | cont => exact .cont (fin h)

/-- a for over a list of the ledger -/
theorem iter_list {l : Addr} {lo : Obj} {vs : List Value} {ep : Nat} {m₀ : Str → Option Value} {news : Led} (J : Nat → (Str → Option Value) → Led → Prop)
    (hh : A.handled = none) (hc : lo.cls = .type "list") (hd : lo.data = .seq vs.toArray ep) (F : Fr h₀ env.locals s.heap m₀) (N : News h₀ env.locals s.heap ((l, lo) :: news)) (hj : J 0 m₀ news)
    (turn : ∀ i v m₁ news₁ h tk I io, vs[i]? = some v → J i m₁ news₁ → io.cls = .type "list_iterator" → Fr h₀ env.locals h (fun y => if y = x then some v else m₁ y) → News h₀ env.locals h ((I, io) :: (l, lo) :: news₁) →
      (∀ p ∈ news₁, p.1 ≠ I) →
      wpAny (model prog w) A (execs body env) (TEnd h₀ env.locals [(I, io), (l, lo)] (.type "list_iterator") (J (i + 1)) { s with heap := h, toks := tk } Q) E { s with heap := h, toks := tk })
    (done : ∀ m₁ news₁ h tk, J vs.length m₁ news₁ → Fr h₀ env.locals h m₁ → News h₀ env.locals h ((l, lo) :: news₁) → Q .next { s with heap := h, toks := tk }) :
    wpAny (model prog w) A (pyIter (.ref l)) (fun it s₂ => LoopAtV prog w A h₀ env x body Q E it s₂) E s := by
  have hl := N _ (.head _)
  have hls : s.heap.IsList l vs.toArray := ⟨lo, hl.1, hc, ep, hd⟩
  have hlt : l < s.heap.objs.size := Heap.lt_size hl.1
  have hne : l ≠ s.heap.objs.size := Nat.ne_of_lt hlt
  refine wpAny_pyIter_list hls ?_
  have W := Walks.list (prog := prog) (w := w) hh s.heap.objs.size l hne vs.toArray
  have hlen : vs.toArray.size = vs.length := by simp
  rw [hlen] at W
  let J' : Nat → (Str → Option Value) → Led → Prop := fun i m₁ ns => ∃ news₁, ns = (l, lo) :: news₁ ∧ J i m₁ news₁
  have hIL : s.heap.objs.size ≠ env.locals := fun e => absurd F.ns.lt (e ▸ Nat.lt_irrefl _)
  have hInew : h₀.get? s.heap.objs.size = none := next_is_new F
  refine ⟨_, _, _, vs.length, _, _, m₀, (l, lo) :: news, J', rfl, W, ?_, ?_, ?_, ⟨⟨_, Heap.get?_push_size _ rfl, rfl, rfl⟩, hls.at fun o e => Heap.get?_push_of_some _ e⟩, F.push _, (fun p hp => ⟨Heap.get?_push_of_some _ (N p hp).1, (N p hp).2⟩), ⟨news, rfl, hj⟩, ?_, ?_⟩
  · intro hm
    rcases List.mem_cons.mp hm with e | hm
    · exact hIL e.symm
    · exact hl.2.1 (List.mem_singleton.mp hm).symm
  · intro b hb
    rw [List.mem_singleton.mp hb]
    exact hInew
  · intro p hp hI
    exact absurd (Heap.lt_size (N p hp).1) ((List.mem_singleton.mp hI) ▸ Nat.lt_irrefl _)
  · rintro i v m₁ _ s₁ own ⟨hh', tk', rfl⟩ hin hP ⟨news₁, rfl, hJ⟩ hoff hown hget hall hst F₁ N₁
    have hv : vs[i]? = some v := by simpa using hP
    obtain ⟨io, hio, hioc, hiod⟩ := hst.1
    have hmem : (s.heap.objs.size, io) ∈ own := hall _ (.head _) hInew io hio
    have hlh : hh'.get? l = some lo := (N₁ _ (List.mem_append_right _ (.head _))).1
    have hlm : (l, lo) ∈ own := hall _ (.tail _ (.head _)) hl.2.2 lo hlh
    have N₂ : News h₀ env.locals hh' ((s.heap.objs.size, io) :: (l, lo) :: news₁) := fun p hp => by
      rcases List.mem_cons.mp hp with rfl | hp
      · exact N₁ _ (List.mem_append_left _ hmem)
      · exact N₁ _ (List.mem_append_right _ hp)
    have hsub : ∀ p ∈ own, p ∈ [(s.heap.objs.size, io), (l, lo)] := fun p hp => by
      have h2 := hget p hp
      rcases List.mem_cons.mp (hown p hp) with h1 | h1
      · rw [h1, hio] at h2
        exact List.mem_cons.mpr (.inl (Prod.ext h1 (Option.some.inj h2).symm))
      · have h1 := List.mem_singleton.mp h1
        rw [h1, hlh] at h2
        exact List.mem_cons.mpr (.inr (List.mem_singleton.mpr (Prod.ext h1 (Option.some.inj h2).symm)))
    refine wpAny_mono (turn i v m₁ news₁ hh' tk' s.heap.objs.size io hv hJ hioc F₁ N₂ (fun p hp q => hoff p (.tail _ hp) (by rw [q]; exact .head _))) (fun f s₂ p => ?_) fun _ _ e => e
    refine tend_step (ic := .type "list_iterator") (io := io) (.head _) hioc hsub ?_
    cases f with
    | ret v => exact p
    | brk => exact p
    | next =>
      obtain ⟨h', tk, m', news', e, F', N', hc', hj'⟩ := p
      refine ⟨h', tk, m', (l, lo) :: news', e, F', fun q hq => ?_, fun q hq => ?_, news', rfl, hj'⟩
      · rcases List.mem_append.mp hq with hq | hq
        · exact N' q (List.mem_append_left _ hq)
        · rcases List.mem_cons.mp hq with rfl | hq
          · exact N' _ (List.mem_append_left _ (.tail _ (.head _)))
          · exact N' q (List.mem_append_right _ hq)
      · rcases List.mem_cons.mp hq with rfl | hq
        · show lo.cls ≠ _
          rw [hc]; decide
        · exact hc' q hq
    | cont =>
      obtain ⟨h', tk, m', news', e, F', N', hc', hj'⟩ := p
      refine ⟨h', tk, m', (l, lo) :: news', e, F', fun q hq => ?_, fun q hq => ?_, news', rfl, hj'⟩
      · rcases List.mem_append.mp hq with hq | hq
        · exact N' q (List.mem_append_left _ hq)
        · rcases List.mem_cons.mp hq with rfl | hq
          · exact N' _ (List.mem_append_left _ (.tail _ (.head _)))
          · exact N' q (List.mem_append_right _ hq)
      · rcases List.mem_cons.mp hq with rfl | hq
        · show lo.cls ≠ _
          rw [hc]; decide
        · exact hc' q hq
  · rintro h' tk m' _ F' N' _ ⟨news₁, rfl, hJ⟩
    exact done m' news₁ h' tk hJ F' N'

/-- a for over a list that stood before -/
theorem iter_listB {l : Addr} {vs : List Value} {m₀ : Str → Option Value} {news : Led} (J : Nat → (Str → Option Value) → Led → Prop)
    (hh : A.handled = none) (hl : h₀.IsList l vs.toArray) (F : Fr h₀ env.locals s.heap m₀) (N : News h₀ env.locals s.heap news) (hj : J 0 m₀ news)
    (turn : ∀ i v m₁ news₁ h tk I io, vs[i]? = some v → J i m₁ news₁ → io.cls = .type "list_iterator" → Fr h₀ env.locals h (fun y => if y = x then some v else m₁ y) → News h₀ env.locals h ((I, io) :: news₁) →
      (∀ p ∈ news₁, p.1 ≠ I) →
      wpAny (model prog w) A (execs body env) (TEnd h₀ env.locals [(I, io)] (.type "list_iterator") (J (i + 1)) { s with heap := h, toks := tk } Q) E { s with heap := h, toks := tk })
    (done : ∀ m₁ news₁ h tk, J vs.length m₁ news₁ → Fr h₀ env.locals h m₁ → News h₀ env.locals h news₁ → Q .next { s with heap := h, toks := tk }) :
    wpAny (model prog w) A (pyIter (.ref l)) (fun it s₂ => LoopAtV prog w A h₀ env x body Q E it s₂) E s := by
  have hls : s.heap.IsList l vs.toArray := hl.at fun o e => F.keep l o e
  obtain ⟨ol, hol, _⟩ := id hl
  have hlt0 : l < h₀.objs.size := Heap.lt_size hol
  have hlL : l ≠ env.locals := Nat.ne_of_lt (Nat.lt_of_lt_of_le hlt0 F.above)
  have hlt : l < s.heap.objs.size := Nat.lt_trans (Nat.lt_of_lt_of_le hlt0 F.above) F.ns.lt
  have hne : l ≠ s.heap.objs.size := Nat.ne_of_lt hlt
  refine wpAny_pyIter_list hls ?_
  have W := Walks.list (prog := prog) (w := w) hh s.heap.objs.size l hne vs.toArray
  have hlen : vs.toArray.size = vs.length := by simp
  rw [hlen] at W
  have hIL : s.heap.objs.size ≠ env.locals := fun e => absurd F.ns.lt (e ▸ Nat.lt_irrefl _)
  have hInew : h₀.get? s.heap.objs.size = none := next_is_new F
  refine ⟨_, _, _, vs.length, _, _, m₀, news, J, rfl, W, ?_, ?_, ?_, ⟨⟨_, Heap.get?_push_size _ rfl, rfl, rfl⟩, hls.at fun o e => Heap.get?_push_of_some _ e⟩, F.push _, (fun p hp => ⟨Heap.get?_push_of_some _ (N p hp).1, (N p hp).2⟩), hj, ?_, ?_⟩
  · intro hm
    rcases List.mem_cons.mp hm with e | hm
    · exact hIL e.symm
    · exact hlL (List.mem_singleton.mp hm).symm
  · intro b hb
    rw [List.mem_singleton.mp hb]
    exact hInew
  · intro p hp hI
    exact absurd (Heap.lt_size (N p hp).1) ((List.mem_singleton.mp hI) ▸ Nat.lt_irrefl _)
  · rintro i v m₁ news₁ s₁ own ⟨hh', tk', rfl⟩ hin hP hJ hoff hown hget hall hst F₁ N₁
    have hv : vs[i]? = some v := by simpa using hP
    obtain ⟨io, hio, hioc, hiod⟩ := hst.1
    have hmem : (s.heap.objs.size, io) ∈ own := hall _ (.head _) hInew io hio
    have N₂ : News h₀ env.locals hh' ((s.heap.objs.size, io) :: news₁) := fun p hp => by
      rcases List.mem_cons.mp hp with rfl | hp
      · exact N₁ _ (List.mem_append_left _ hmem)
      · exact N₁ _ (List.mem_append_right _ hp)
    have hsub : ∀ p ∈ own, p ∈ [(s.heap.objs.size, io)] := fun p hp => by
      have h2 := hget p hp
      rcases List.mem_cons.mp (hown p hp) with h1 | h1
      · rw [h1, hio] at h2
        exact List.mem_singleton.mpr (Prod.ext h1 (Option.some.inj h2).symm)
      · have h1 := List.mem_singleton.mp h1
        have := (N₁ _ (List.mem_append_left _ hp)).2.2
        rw [h1, hol] at this
        cases this
    refine wpAny_mono (turn i v m₁ news₁ hh' tk' s.heap.objs.size io hv hJ hioc F₁ N₂ (fun p hp q => hoff p hp (by rw [q]; exact .head _))) (fun f s₂ p => ?_) fun _ _ e => e
    exact tend_step (ic := .type "list_iterator") (io := io) (.head _) hioc hsub p
  · rintro h' tk m' news₁ F' N' _ hJ
    exact done m' news₁ h' tk hJ F' N'

/-- a for over a small range of the call's own -/
theorem iter_range {r : Addr} {a₀ b₀ : Int} {t₀ u₀ v₀ : Tok} {n : Nat} {m₀ : Str → Option Value} {news : Led} (J : Nat → (Str → Option Value) → Led → Prop)
    (hh : A.handled = none) (hr : IsRange s.heap r a₀ b₀ 1 t₀ u₀ v₀) (hsmall : Builtin.Range.small a₀ b₀ 1 = true) (hn : Builtin.Range.rangeSize a₀ b₀ 1 = (n : Int)) (F : Fr h₀ env.locals s.heap m₀) (N : News h₀ env.locals s.heap news) (hj : J 0 m₀ news)
    (turn : ∀ i t m₁ news₁ h tk I io, i < n → J i m₁ news₁ → io.cls = .type "range_iterator" → Fr h₀ env.locals h (fun y => if y = x then some (.int (a₀ + (i : Int)) t) else m₁ y) → News h₀ env.locals h ((I, io) :: news₁) →
      (∀ p ∈ news₁, p.1 ≠ I) →
      wpAny (model prog w) A (execs body env) (TEnd h₀ env.locals [(I, io)] (.type "range_iterator") (J (i + 1)) { s with heap := h, toks := tk } Q) E { s with heap := h, toks := tk })
    (done : ∀ m₁ news₁ h tk, J n m₁ news₁ → Fr h₀ env.locals h m₁ → News h₀ env.locals h news₁ → Q .next { s with heap := h, toks := tk }) :
    wpAny (model prog w) A (pyIter (.ref r)) (fun it s₂ => LoopAtV prog w A h₀ env x body Q E it s₂) E s := by
  refine wpAny_pyIter_range hr hsmall ?_
  have W : Walks prog w A s.heap.objs.size [s.heap.objs.size] [s.heap.objs.size] n (fun i v => i < n ∧ ∃ t, v = .int (a₀ + i * 1) t)
      (fun i h => IsRangeIter h s.heap.objs.size (a₀ + (i : Nat) * 1) ((n : Int) - (i : Nat)) 1) := (Walks.range hh _ a₀ 1 n).bound
  have hInew : h₀.get? s.heap.objs.size = none := next_is_new F
  refine ⟨_, _, _, n, _, _, m₀, news, J, rfl, W, ?_, ?_, ?_, (by show IsRangeIter _ _ _ _ _; rw [hn]; simpa using Heap.get?_push_size _ rfl), F.push _, (fun p hp => ⟨Heap.get?_push_of_some _ (N p hp).1, (N p hp).2⟩), hj, ?_, ?_⟩
  · intro hm
    exact absurd F.ns.lt ((List.mem_singleton.mp hm) ▸ Nat.lt_irrefl _)
  · intro b hb
    rw [List.mem_singleton.mp hb]
    exact hInew
  · intro p hp hI
    exact absurd (Heap.lt_size (N p hp).1) ((List.mem_singleton.mp hI) ▸ Nat.lt_irrefl _)
  · rintro i v m₁ news₁ s₁ own ⟨hh', tk', rfl⟩ hin ⟨_, t, rfl⟩ hJ hoff hown hget hall hst F₁ N₁
    obtain ⟨io, hio, hioc⟩ : ∃ io, hh'.get? s.heap.objs.size = some io ∧ io.cls = .type "range_iterator" := ⟨_, hst, rfl⟩
    have hmem : (s.heap.objs.size, io) ∈ own := hall _ (.head _) hInew io hio
    have e1 : a₀ + (i : Int) * 1 = a₀ + (i : Int) := by rw [Int.mul_one]
    rw [e1] at F₁
    have N₂ : News h₀ env.locals hh' ((s.heap.objs.size, io) :: news₁) := fun p hp => by
      rcases List.mem_cons.mp hp with rfl | hp
      · exact N₁ _ (List.mem_append_left _ hmem)
      · exact N₁ _ (List.mem_append_right _ hp)
    have hsub : ∀ p ∈ own, p ∈ [(s.heap.objs.size, io)] := fun p hp => by
      have h2 := hget p hp
      have h1 := List.mem_singleton.mp (hown p hp)
      rw [h1, hio] at h2
      exact List.mem_singleton.mpr (Prod.ext h1 (Option.some.inj h2).symm)
    refine wpAny_mono (turn i t m₁ news₁ hh' tk' s.heap.objs.size io hin hJ hioc F₁ N₂ (fun p hp q => hoff p hp (by rw [q]; exact .head _))) (fun f s₂ p => ?_) fun _ _ e => e
    exact tend_step (ic := .type "range_iterator") (io := io) (.head _) hioc hsub p
  · rintro h' tk m' news₁ F' N' _ hJ
    exact done m' news₁ h' tk hJ F' N'
end
end Mine
end
section
open PySem PySem.W PySem.Spec PySem.Calls PyProof.Rows
namespace Mine
set_option maxRecDepth 100000
set_option maxHeartbeats 400000
/-- getattr(v, name) is v', wherever the heap h stands -/
def Gets (w : World) (h : Heap) (v : Value) (name : Str) (v' : Value) : Prop :=
  ∀ (A : Around) (Q E : Value → Shared → Prop) (s : Shared) (t : Tok), (∀ b o, h.get? b = some o → s.heap.get? b = some o) → (∀ tk, Q v' { s with toks := tk }) →
    wpAny (model PySem.Challenge.rw_in0200_01.row.prog w) A (call (.builtin "getattr") [v, .str name t]) Q E s
abbrev gaMap (obj : Value) (path : Str) (t : Tok) (c : Value) (par sub : Option Value) : Str → Option Value := fun y =>
  if y = Str.ofString "obj" then some c else if y = Str.ofString "parent" then par else if y = Str.ofString "subpath" then sub else
  if y = Str.ofString "top" then some obj else List.lookup y [(Str.ofString "obj", obj), (Str.ofString "name", Value.str path t)].reverse
theorem gaMap_turn {obj : Value} {path : Str} {t : Tok} {c c' v : Value} {par sub : Option Value} :
    (fun y => if y = Str.ofString "obj" then some c' else if y = Str.ofString "parent" then some c else if y = Str.ofString "subpath" then some v else gaMap obj path t c par sub y) = gaMap obj path t c' (some c) (some v) := by
  funext y
  unfold gaMap
  by_cases h1 : y = Str.ofString "obj"
  · simp only [if_pos h1]
  · simp only [if_neg h1]
    by_cases h2 : y = Str.ofString "parent"
    · simp only [if_pos h2]
    · simp only [if_neg h2]
      by_cases h3 : y = Str.ofString "subpath"
      · simp only [if_pos h3]
      · simp only [if_neg h3]
theorem gaMap_start {obj : Value} {path : Str} {t : Tok} :
    (fun y => if y = Str.ofString "top" then some obj else List.lookup y [(Str.ofString "obj", obj), (Str.ofString "name", Value.str path t)].reverse) = gaMap obj path t obj none none := by
  funext y
  unfold gaMap
  by_cases h1 : y = Str.ofString "obj"
  · subst h1; rfl
  · simp only [if_neg h1]
    by_cases h2 : y = Str.ofString "parent"
    · subst h2; rfl
    · simp only [if_neg h2]
      by_cases h3 : y = Str.ofString "subpath"
      · subst h3; rfl
      · simp only [if_neg h3]

theorem ga_ok (w : World) (obj : Value) (path : Str) (t : Tok) (parts : List Str) (chain : Nat → Value) (hsp : Txt.split path (Str.ofString ".") = parts) (hlen : path.length ≤ 1000) (h0 : chain 0 = obj)
    (hparts : ∀ p ∈ parts, p ∈ pcs) (hne : parts ≠ []) :
    Ctr w (kk.heap_1 w.params) (.ref 35) [obj, .str path t] [] (fun h => ∀ i p, parts[i]? = some p → Gets w h (chain i) p (chain (i + 1))) (fun h v h' => ∃ a, v = .ref a ∧ h.get? a = none ∧ h'.get? a = some { cls := .type "tuple", data := .seq #[chain parts.length, chain (parts.length - 1)] }) 10 100 := by
  have : Fill PySem.Challenge.rw_in0200_01 kk.heap_1 := by k_fill; trivial
  clear this
  refine ctr_enter [(Str.ofString "obj", obj), (Str.ofString "name", .str path t)] (by k_is) (by k_is) (fun s X => BindsTo.of_eq rfl) (locs rfl) ?_
  intro dp un gd fr base g p loose mean mg mb s L' h₁ tk st B' X' T' hH hpre hdp hun hg F' N' hlt
  (repeat' ((fail_if_success (with_reducible show wpAny _ _ (call (Value.builtin "str.split") _) _ _ _)); first | (k_unfold; (try dsimp only)) | (k_end; kc_close) | walk1 | (dsimp only; walk1) | (leave1; (try dsimp only))))
  rename Fr _ _ _ _ => F''; rename News _ _ _ _ => N''
  refine' splitN1A (hsz := ?hz) ?k1 ?k2 ?hy ?_; (case k1 => exact F''); (case k2 => exact N''); (case hy => decide); (case hz => rw [sizeLine_eq]; (first | lia | omega)); intro l h' k e are short hl F1 N1
  rw [hsp] at e
  refine iter_list (ep := 0) (J := fun i m news => news = [] ∧ ∃ par sub, m = gaMap obj path t (chain i) par sub ∧ (0 < i → par = some (chain (i - 1)))) rfl rfl rfl F1 N1 ?_ ?_ ?_
  · exact ⟨rfl, none, none, by rw [h0]; exact gaMap_start, fun h => absurd h (Nat.lt_irrefl _)⟩
  · rintro i v m₁ news₁ h tk I io hv ⟨rfl, par, sub, rfl, hpar⟩ hio F' N' hI
    clear F'' F1 N1
    obtain ⟨p9, q, hp, rfl⟩ : ∃ p q, parts[i]? = some p ∧ v = .str p q := by
      subst e
      simp only [strValues, List.getElem?_map, Option.map_eq_some_iff] at hv ⊢
      obtain ⟨x, hx, rfl⟩ := hv
      exact ⟨x.1, x.2, ⟨x, hx, rfl⟩, rfl⟩
    have hpm := hparts p9 (List.mem_of_getElem? hp)
    obtain ⟨-, -, hnl⟩ := pcs_fine hpm
    k_steps
    rename Fr _ _ _ _ => F2; rename News _ _ _ _ => N2
    refine' ctr_use0 (pe_name w _ ?c0 _) ?c1 ?c2 ?c3 ?c4 ?c5 ?c6 ?c7 ?c8 ?c9 ?c10 ?_
    (case c0 => exact hpm)
    (case c1 => exact B')
    (case c2 => exact F2)
    (case c3 => exact X')
    (case c4 => exact N2)
    (case c5 => exact T')
    (case c6 => rfl)
    (case c7 => rfl)
    (case c8 => trivial)
    (case c9 => simp only [recursionLimit] at *; (first | lia | omega))
    (case c10 => simp only [cLine] at *; (first | lia | omega))
    intro v h' tk' F3 N3 st3 fr3 hv3
    subst hv3
    clear F2 N2
    (repeat' ((fail_if_success (with_reducible show wpAny _ _ (call (Value.builtin "getattr") _) _ _ _)); first | (k_unfold; (try dsimp only)) | (k_end; kc_close) | walk1 | (dsimp only; walk1) | (leave1; (try dsimp only))))
    refine hpre i _ ?gi _ _ _ _ _ ?gk ?_
    (case gi => exact hp)
    (case gk => exact fun b o e => F3.keep b o (st b o (fun h => nomatch h) e))
    intro tk2
    k_steps
    rename Fr _ _ _ _ => F4; rename News _ _ _ _ => N4
    exact TEnd.next [] F4 N4 (fun _ h => nomatch h) ⟨rfl, _, _, gaMap_turn, fun _ => rfl⟩
  · rintro m₁ news₁ h tk ⟨rfl, par, sub, rfl, hpar⟩ F' N'
    have hln : (strValues l).length = parts.length := by rw [← e]; simp [strValues]
    rw [hln] at hpar F'
    obtain rfl := hpar (List.length_pos_iff.mpr hne)
    k_steps
    rename Fr _ _ _ _ => F4; rename News _ _ _ _ => N4
    exact DoneC.intro F4 ⟨_, rfl, none_of_stay st (N4 _ (.head _)).2.2, N4.get (.head _)⟩
end Mine
end
section
open PySem PySem.W PySem.Spec PySem.Calls PyProof.Rows
namespace Mine
set_option maxRecDepth 100000
set_option maxHeartbeats 1000000
/-- A contract of a call that raises AttributeError; Exc: of its arguments -/
def CtrR (w : World) (K : Frag) (f : Value) (vs : List Value) (Pre : Heap → Prop) (Exc : Heap → List Value → Prop) (d u : Nat) : Prop :=
  ∀ (dp un : Nat) (gd : Option (List Code)) (fr : List Env) (base : Heap) (s : Shared) (R : Result → Shared → Prop) (p : Program) (loose : List Str) (mean : ExcName → Option Value) (mg mb : Str → Option Value),
    Below (arr dp un gd fr) base fr s.heap → K.In base → Top p loose mean mg mb base → Pre s.heap → dp + d < recursionLimit → un + u < cLine →
    (∀ (h' : Heap) (e t : Addr) (tk' : Nat) (xs : List Value), RaisedS base s.heap fr e (.type "AttributeError") t xs [] h' → s.heap.UpToSlots h' → Exc s.heap xs → R (.error (.ref e)) { s with heap := h', toks := tk' }) →
    codeAny (model PySem.Challenge.rw_in0200_01.row.prog w) (arr dp un gd fr) (.call f ⟨vs, []⟩) R s
theorem ctr_enterR {w : World} {K : Frag} {f : Addr} {vs : List Value} {Pre : Heap → Prop} {Exc : Heap → List Value → Prop} {d u : Nat}
    {name qual : Str} {params : Arguments} {body : List Stmt} {scope : Scope} {dV kV doc pm cdv ct oc : Value} {an od : Option Addr} {osl : Array (Option Value)}
    (binds : List (Str × Value))
    (ho : K.lookup f = some ⟨oc, od, .func (fnOf name qual params body scope dV kV doc pm an cdv ct), osl⟩) (hcd : codeIn K cdv qual = true) 
    (hbind : ∀ s : Shared, K.In s.heap → BindsTo s (fnOf name qual params body scope dV kV doc pm an cdv ct) ⟨vs, []⟩ binds) (hloc : ∀ y ∈ binds, scope.names.lookup y.1 = some .local)
    (h : ∀ (dp un : Nat) (gd : Option (List Code)) (fr : List Env) (base : Heap) (p : Program) (loose : List Str) (mean : ExcName → Option Value) (mg mb : Str → Option Value) (s : Shared) (L' : Addr) (h₁ : Heap) (tk : Nat) (R : Result → Shared → Prop),
      Below (arr dp un gd fr) base fr s.heap → K.In base → K.In s.heap → Top p loose mean mg mb base → Top p loose mean mg mb s.heap → Pre s.heap → dp + d < recursionLimit → un + u < cLine →
      Fr s.heap L' h₁ (fun y => binds.reverse.lookup y) → News s.heap L' h₁ [] →
      (∀ (h' : Heap) (e t : Addr) (tk' : Nat) (xs : List Value), RaisedS base s.heap fr e (.type "AttributeError") t xs [] h' → s.heap.UpToSlots h' → Exc s.heap xs → R (.error (.ref e)) { s with heap := h', toks := tk' }) →
      wpAny (model PySem.Challenge.rw_in0200_01.row.prog w) ((arr dp un gd fr).deeper (envOf qual scope L' f cdv)) (execs body (envOf qual scope L' f cdv))
        (fun _ _ => False) (fun e s' => wpAny (model PySem.Challenge.rw_in0200_01.row.prog w) ((arr dp un gd fr).deeper (envOf qual scope L' f cdv)) (leaving (envOf qual scope L' f cdv) e) (fun _ s'' => R (.error e) s'') (fun e' s'' => R (.error e') s'') s') { s with heap := h₁, toks := tk })
    (hcell : ∀ x ∈ scope.names, x.2 ≠ .cell := by decide) (hco : scope.isCoroutine = false := by rfl) (hgen : scope.isGenerator = false := by rfl) (hk : scope.kind = .function := by rfl) :
    CtrR w K (.ref f) vs Pre Exc d u := by
  intro dp un gd fr base s R p loose mean mg mb B XB TB hpre hdp hun hret
  have Xs : K.In s.heap := XB.keeps B.stays
  have Ts := TB.keeps B.stays
  have hroom : (arr dp un gd fr).depth < recursionLimit := Nat.lt_of_le_of_lt (Nat.le_add_right _ _) hdp
  refine codeAny_call_def (fd := fnOf name qual params body scope dV kV doc pm an cdv ct) (body := body) (binds := binds) hroom (Xs _ _ ho) rfl Ts.nolimit (codeRec_of Xs hcd) rfl (hbind s Xs) hcell hloc (fun h₁ hns hk₁ => ?_) hco hgen hk
  exact wpAny_mono (h dp un gd fr base p loose mean mg mb s s.heap.objs.size h₁ _ R B XB Xs TB Ts hpre hdp hun ⟨hns, hk₁, Nat.le_refl _⟩ (fun _ hp => (List.not_mem_nil hp).elim) hret) (fun _ _ x => x.elim) fun _ _ x => x
/-- a stack object -/
abbrev stObj (d : Addr) (nm tp dc : Value) : Obj := { cls := .ref 107, dict := some d, slots := #[some dc, some nm, some tp] }
end Mine
end
section
open PySem PySem.W PySem.Spec PySem.Calls PyProof.Rows
namespace Mine
set_option maxRecDepth 100000
set_option maxHeartbeats 1000000
local macro_rules | `(tactic| k_inst) => `(tactic| assumption)
theorem repr_st (w : World) (x d : Addr) (nm tp dc : Value) :
    Ctr w (kk.heap_1 w.params) (.ref 103) [.ref x] [] (fun h => h.get? x = some (stObj d nm tp dc) ∧ h.get? d = some emptyDict ∧ handedIn nm = true) (fun h v h' => v = nm) 3 30 := by
  have : Fill PySem.Challenge.rw_in0200_01 kk.heap_1 := by k_fill; trivial
  clear this
  refine ctr_enter [(Str.ofString "self", .ref x)] (by k_is) (by k_is) (fun s X => BindsTo.of_eq rfl) (locs rfl) ?_
  intro dp un gd fr base g p loose mean mg mb s L' h₁ tk st B' X' T' hH hpre hdp hun hg F' N' hlt
  obtain ⟨hx, hd', hh⟩ := hpre
  have I : InstAt h₁ x (stObj d nm tp dc) 107 (some emptyDict) := ⟨F'.keep _ _ (st _ _ (List.not_mem_nil) hx), rfl, rfl, F'.keep _ _ (st _ _ (List.not_mem_nil) hd')⟩
  k_steps
  refine get_slot (ox := stObj d nm tp dc) (i := 1) F' X' I (by k_is) (by k_is) (by k_is) (by k_is) (by k_is) (by k_is) rfl hh ?_
  k_steps
  all_goals (try dsimp only)
  exact DoneC.intro F' rfl
/-- repr of a stack object, in a walk's frame -/
theorem repr_use (w : World) {x d : Addr} {nm : Str} {tn : Tok} {tp dc : Value} {A₀ : Around} {base h₀ : Heap} {outer : List Env} {env : Env} {L : Addr} {m : Str → Option Value} {s : Shared} {dp un : Nat} {gd : Option (List Code)}
    {p : Program} {loose : List Str} {mean : ExcName → Option Value} {mg mb : Str → Option Value} {Q E : Value → Shared → Prop} {news : Led}
    (B : Below A₀ base outer h₀) (F : Fr h₀ L s.heap m) (X : (kk.heap_1 w.params).In h₀) (N : News h₀ L s.heap news) (T : Top p loose mean mg mb h₀) (hf : env.frame = some L) (hke : env.scope.kind = .function)
    (hx : s.heap.get? x = some (stObj d (.str nm tn) tp dc)) (hd' : s.heap.get? d = some emptyDict) (hdp : dp + 3 < recursionLimit) (hu : un + 31 < cLine)
    (h : ∀ h' tk', Fr h₀ L h' m → News h₀ L h' news → (∀ b o, s.heap.get? b = some o → h'.get? b = some o) → Q (.str nm tn) { s with heap := h', toks := tk' }) :
    wpAny (model PySem.Challenge.rw_in0200_01.row.prog w) (arr dp un gd (env :: outer)) (pyReprObj (.ref x)) Q E s := by
  have : Fill PySem.Challenge.rw_in0200_01 kk.heap_1 := by k_fill; trivial
  clear this
  have Xs : (kk.heap_1 w.params).In s.heap := X.keeps F.keep
  have I : InstAt s.heap x (stObj d (.str nm tn) tp dc) 107 (some emptyDict) := ⟨hx, rfl, rfl, hd'⟩
  have hs : findIn (kk.heap_1 w.params) (.ref 107) "__repr__" = some (some (.ref 103)) := by k_is
  have hfn : isFn (kk.heap_1 w.params) (.ref 103) = true := by k_is
  unfold pyReprObj
  refine wpAny_bind (wpAny_cRoomFor (by show un < cLine; (first | lia | omega)) ?_)
  refine wpAny_bind (wpAny_bind (I.type.here ((looks_findIn Xs hs).here ?_)))
  show wpAny _ _ (if (some (Value.ref 103)).isNone = true then _ else _) _ _ _
  rw [if_neg (by simp)]
  refine wpAny_bind (m := callSpecialIfBound? (.ref x) (Str.ofString "__repr__") _) (ifBound_K Xs I hs hfn ?_)
  refine ctr_use0 (repr_st w x d (.str nm tn) tp dc) B F X N T hf hke ⟨hx, hd', rfl⟩ hdp (by (first | lia | omega)) fun v h' tk' F' N' k fresh hv => ?_
  subst hv
  refine wpAny_bind (wpAny_isInstance (PySem.typeIs_str _ _ _) isSubtype_str_str ?_)
  first | exact wpAny_pure (h h' tk' F' N' k) | (rw [if_pos rfl]; exact wpAny_pure (h h' tk' F' N' k)) | (show wpAny _ _ (pure _) _ _ _; exact wpAny_pure (h h' tk' F' N' k))
theorem fmt_loc_st (w : World) {x d : Addr} {nm path : Str} {tn t tp' : Tok} {tp dc : Value} {A₀ : Around} {base h₀ : Heap} {outer : List Env} {env : Env} {L : Addr} {m : Str → Option Value} {s : Shared} {dp un : Nat} {gd : Option (List Code)}
    {p : Program} {loose : List Str} {mean : ExcName → Option Value} {mg mb : Str → Option Value} {Q E : Value → Shared → Prop} {news : Led}
    (B : Below A₀ base outer h₀) (F : Fr h₀ L s.heap m) (X : (kk.heap_1 w.params).In h₀) (N : News h₀ L s.heap news) (T : Top p loose mean mg mb h₀) (hf : env.frame = some L) (hke : env.scope.kind = .function)
    (hx : s.heap.get? x = some (stObj d (.str nm tn) tp dc)) (hd' : s.heap.get? d = some emptyDict) (hdp : dp + 3 < recursionLimit) (hu : un + 32 < cLine) (hr : (reprText path).length ≤ 1000) (hn : nm.length ≤ 1000)
    (h : ∀ h' t' tk', Fr h₀ L h' m → News h₀ L h' news → (∀ b o, s.heap.get? b = some o → h'.get? b = some o) → Q (.str (((Str.ofString "Can't get local attribute " ++ reprText path) ++ Str.ofString " on ") ++ nm) t') { s with heap := h', toks := tk' }) :
    wpAny (model PySem.Challenge.rw_in0200_01.row.prog w) (arr dp un gd (env :: outer)) (call (.builtin "str.format") [.str (Str.ofString "Can't get local attribute {!r} on {!r}") t, .str path tp', .ref x]) Q E s :=
  fmt_loc (P := fun h' => Fr h₀ L h' m ∧ News h₀ L h' news ∧ (∀ b o, s.heap.get? b = some o → h'.get? b = some o)) hr hn
    (fun Q k hq => repr_use w (s := { s with toks := k }) (un := un + 1) B F X N T hf hke hx hd' hdp (by (first | lia | omega)) fun h' tk' F' N' ke => hq h' _ tk' ⟨F', N', ke⟩)
    fun h' t' k p => h h' t' k p.1 p.2.1 p.2.2
theorem fmt_att_st (w : World) {x d : Addr} {nm path : Str} {tn t tp' : Tok} {tp dc : Value} {A₀ : Around} {base h₀ : Heap} {outer : List Env} {env : Env} {L : Addr} {m : Str → Option Value} {s : Shared} {dp un : Nat} {gd : Option (List Code)}
    {p : Program} {loose : List Str} {mean : ExcName → Option Value} {mg mb : Str → Option Value} {Q E : Value → Shared → Prop} {news : Led}
    (B : Below A₀ base outer h₀) (F : Fr h₀ L s.heap m) (X : (kk.heap_1 w.params).In h₀) (N : News h₀ L s.heap news) (T : Top p loose mean mg mb h₀) (hf : env.frame = some L) (hke : env.scope.kind = .function)
    (hx : s.heap.get? x = some (stObj d (.str nm tn) tp dc)) (hd' : s.heap.get? d = some emptyDict) (hdp : dp + 3 < recursionLimit) (hu : un + 32 < cLine) (hr : (reprText path).length ≤ 1000) (hn : nm.length ≤ 1000)
    (h : ∀ h' t' tk', Fr h₀ L h' m → News h₀ L h' news → (∀ b o, s.heap.get? b = some o → h'.get? b = some o) → Q (.str (((Str.ofString "Can't get attribute " ++ reprText path) ++ Str.ofString " on ") ++ nm) t') { s with heap := h', toks := tk' }) :
    wpAny (model PySem.Challenge.rw_in0200_01.row.prog w) (arr dp un gd (env :: outer)) (call (.builtin "str.format") [.str (Str.ofString "Can't get attribute {!r} on {!r}") t, .str path tp', .ref x]) Q E s :=
  fmt_att (P := fun h' => Fr h₀ L h' m ∧ News h₀ L h' news ∧ (∀ b o, s.heap.get? b = some o → h'.get? b = some o)) hr hn
    (fun Q k hq => repr_use w (s := { s with toks := k }) (un := un + 1) B F X N T hf hke hx hd' hdp (by (first | lia | omega)) fun h' tk' F' N' ke => hq h' _ tk' ⟨F', N', ke⟩)
    fun h' t' k p => h h' t' k p.1 p.2.1 p.2.2
end Mine
end
section
open PySem PySem.W PySem.Spec PySem.Calls PyProof.Rows
namespace Mine
set_option maxRecDepth 100000
set_option maxHeartbeats 1000000
/-- an AttributeError at hand, and what its raising must meet -/
def RaisableA (E : Value → Shared → Prop) (v : Value) (s₁ : Shared) : Prop :=
  ∃ a ob vs, v = .ref a ∧ s₁.heap.get? a = some ob ∧ ob.cls = .type "AttributeError" ∧ ob.data = .fields vs ∧ vs[1]? = some .none ∧ E (.ref a) s₁
theorem subBE : isSubtype (.type "AttributeError") (.type "BaseException") = pure true := by rw [isSubtype_type]; kernel_rfl
section
variable {M : Model} {A : Around} {E : Value → Shared → Prop} {s : Shared} {env : Env}
theorem Raise_newA {e : Expr} {pos : Pos} {Q : Flow → Shared → Prop} (hh : A.handled = none)
    (h : wpAny M A (eval e env) (RaisableA E) E s) : wpAny M A (exec (.Raise (some e) none pos) env) Q E s := by
  show wpAny M A (do standAt pos; raiseStmt env (some (do let v ← eval e env; standAt pos; pure v)) none) Q E s
  refine wpAny_bind (wpAny_standAt ?_)
  unfold raiseStmt
  dsimp only
  refine wpAny_bind (wpAny_bind (wpAny_mono h (fun v s₁ h₁ => wpAny_bind (wpAny_standAt (wpAny_pure ?_))) fun _ _ x => x))
  obtain ⟨a, ob, vs, rfl, ha, hcls, hd, h1, hE⟩ := h₁
  have hT : s₁.TypeIs (.ref a) "AttributeError" := ⟨ob, ha, hcls⟩
  have hnt : ∀ {Q' : Bool → Shared → Prop}, Q' false s₁ → wpAny M A (isType (.ref a)) Q' E s₁ := by
    intro Q' hq
    simp only [isType, loadHead]
    refine wpAny_bind (wpAny_loadPart ha ?_)
    rw [hd]; exact wpAny_pure hq
  refine wpAny_bind (wpAny_pure ?_)
  dsimp only
  refine wpAny_bind (wpAny_holding ?_)
  unfold excFromValue isExcClass
  refine wpAny_bind (wpAny_bind (hnt ?_))
  simp only [Bool.false_eq_true, if_false]
  refine wpAny_pure ?_
  simp only [Bool.false_eq_true, if_false]
  refine wpAny_bind (wpAny_isInstance hT subBE ?_)
  simp only [if_true]
  refine wpAny_pure ?_
  refine wpAny_bind (hnt ?_)
  simp only [Bool.false_eq_true, if_false]
  unfold raisedInstance
  refine wpAny_bind (wpAny_bind (wpAny_typeOf hT (wpAny_bind (m := typeOf (.type "AttributeError")) (wpAny_pure ?_))))
  rw [if_pos (by decide +kernel)]
  refine wpAny_pure ?_
  unfold setFlight raiseNew
  refine wpAny_bind (wpAny_bind (wpAny_field ha hd h1 ?_))
  rw [if_neg (by decide)]
  refine wpAny_pure (wpAny_bind (wpAny_handled ?_))
  rw [hh]
  first
    | exact wpAny_throw hE
    | exact wpAny_bind (wpAny_pure (wpAny_throw hE))
/-- an AttributeError at hand, whatever its other fields -/
structure MadeF (h h' : Heap) (e t : Addr) (xs : List Value) : Prop where
  keeps : ∀ b o, h.get? b = some o → h'.get? b = some o
  new : h.get? e = none
  newt : h.get? t = none
  there : ∃ ws, h'.get? e = some { cls := .type "AttributeError", data := .fields ws } ∧ ws[0]? = some (.ref t) ∧ ws[1]? = some .none
  args : h'.get? t = some { cls := .type "tuple", data := .seq xs.toArray }
theorem MadeAE.toF {h h' : Heap} {e t : Addr} {xs : List Value} (x : MadeAE h h' e t xs) : MadeF h h' e t xs :=
  ⟨x.keeps, x.new, x.newt, by obtain ⟨u, v, he⟩ := x.there; exact ⟨_, he, rfl, rfl⟩, x.args⟩
/-- leaving the frame that raised it -/
theorem leave_raiseF {base g h : Heap} {outer : List Env} {L a e t : Addr} {m : Str → Option Value} {name : Str} {scope : Scope} {cd : Value} {s' : Shared} {Q : Unit → Shared → Prop} {news : Led} {xs : List Value}
    (K : Below A base outer g) (hx : MadeF h s'.heap e t xs) (F : Fr g L h m) (N : News g L h news)
    (hQ : ∀ h', RaisedS base g outer e (.type "AttributeError") t xs news h' → g.UpToSlots h' → Q () { s' with heap := h' }) (hk : scope.kind = .function := by rfl) :
    wpAny M (A.deeper (envOf name scope L a cd)) (leaving (envOf name scope L a cd) (.ref e)) Q E s' := by
  have K' := K.push (name := name) (a := a) (cd := cd) F hk
  have hin : ∀ env ∈ (envOf name scope L a cd :: outer), ∀ b, env.frame = some b → b ∈ (envOf name scope L a cd :: outer).filterMap (·.frame) := fun env he b hb => List.mem_filterMap.mpr ⟨env, he, hb⟩
  have st : base.StaysIn (hideAll h ((envOf name scope L a cd :: outer).filterMap (·.frame))) := fun b o q => hideAll_get _ (K'.stays b o q) fun hm => by
    rw [(K'.frames.mem hm).1] at q; cases q
  have sg : ∀ b o, g.get? b = some o → b ∉ outer.filterMap (·.frame) → (hideAll h ((envOf name scope L a cd :: outer).filterMap (·.frame))).get? b = some o := fun b o q nm => hideAll_get _ (F.keep b o q) fun hm => by
    rcases kts_mem hm with z | z
    · rw [z, kts_self F] at q
      cases q
    · exact nm z
  have hl : ∀ q ∈ news, (hideAll h ((envOf name scope L a cd :: outer).filterMap (·.frame))).get? q.1 = some q.2 ∧ g.get? q.1 = none ∧ base.get? q.1 = none := fun q hq => by
    refine ⟨hideAll_get _ (N q hq).1 fun hm => ?_, (N q hq).2.2, fresh_of_stays K.stays (N q hq).2.2⟩
    obtain ⟨env, he, hf⟩ := List.mem_filterMap.mp hm
    rcases List.mem_cons.mp he with rfl | he
    · exact (N q hq).2.1 (Option.some.inj hf).symm
    · obtain ⟨o, ho, _⟩ := (K.frames.mem (List.mem_filterMap.mpr ⟨env, he, hf⟩)).2
      rw [(N q hq).2.2] at ho; cases ho
  obtain ⟨ws, he, w0, w1⟩ := hx.there
  have kb : (hideAll h ((envOf name scope L a cd :: outer).filterMap (·.frame))).StaysIn h := fun b o q => of_hideAll _ q
  have fresh : ∀ b, h.get? b = none → (hideAll h ((envOf name scope L a cd :: outer).filterMap (·.frame))).get? b = none := fun b hb => by
    cases hq : (hideAll h ((envOf name scope L a cd :: outer).filterMap (·.frame))).get? b with
    | none => rfl
    | some o' => have := kb b o' hq; rw [hb] at this; cases this
  refine wpAny_leaving_firstW (a0 := .ref t) K'.stack ((funFrames_hide K'.frames hin).of_keeps fun b o hb _ => ⟨o, hx.keeps b o hb, rfl⟩) rfl he (fun b o hb => hx.keeps b o (kb b o hb)) (fresh e hx.new) rfl w1 w0 fun h' hL => ?_
  obtain ⟨k1, ⟨_, _, k2⟩, k3, k4⟩ := hL
  have x1 : Heap.FlyingW (hideAll h ((envOf name scope L a cd :: outer).filterMap (·.frame))) outer e (.type "AttributeError") (.ref t) h' := ⟨k1, fresh e hx.new, k2, k3⟩
  have x2 : h'.TupAt t xs := Heap.TupAt.of_slots ⟨_, _, hx.args, rfl, rfl⟩ k4
  exact hQ h' ⟨⟨_, st, sg, hl, x1, fresh t hx.newt⟩, x2⟩ (((Heap.UpToSlots.of_keeps F.keep).trans (Heap.UpToSlots.of_keeps hx.keeps)).trans k4)
theorem leave_raiseA {base g h : Heap} {outer : List Env} {L a e t : Addr} {m : Str → Option Value} {name : Str} {scope : Scope} {cd : Value} {s' : Shared} {Q : Unit → Shared → Prop} {news : Led} {xs : List Value}
    (K : Below A base outer g) (hx : MadeAE h s'.heap e t xs) (F : Fr g L h m) (N : News g L h news)
    (hQ : ∀ h', RaisedS base g outer e (.type "AttributeError") t xs news h' → g.UpToSlots h' → Q () { s' with heap := h' }) (hk : scope.kind = .function := by rfl) :
    wpAny M (A.deeper (envOf name scope L a cd)) (leaving (envOf name scope L a cd) (.ref e)) Q E s' := leave_raiseF K hx.toF F N hQ hk
end
end Mine
end
section
open PySem PySem.W PySem.Spec PySem.Calls PyProof.Rows
namespace Mine
set_option maxRecDepth 100000
set_option maxHeartbeats 1000000
section
variable {M : Model} {A : Around} {E : Value → Shared → Prop} {s : Shared}
/-- noting the frame that raised, the first time; the exception's other fields stay -/
theorem noteFrame_first {base : Heap} {env : Env} {outer : List Env} {L e : Addr} {oe : Obj} {vs : Array Value} {a0 : Value} {Q : Unit → Shared → Prop}
    (hfr : A.frames = some (env :: outer)) (hl : s.heap.FunFrames base (env :: outer)) (hf : env.frame = some L)
    (he : s.heap.get? e = some oe) (hkb : base.StaysIn s.heap) (hen : base.get? e = none) (hd : oe.data = .fields vs) (h1 : vs[1]? = some .none) (h0 : vs[0]? = some a0)
    (h : ∀ h' T, Heap.NotedW base (env :: outer) e oe.cls a0 (rawInt L) s.heap h' → h'.get? e = some (Obj.mapFields (·.setIfInBounds 1 (.ref T)) oe) → Q () { s with heap := h' }) : wpAny M A (noteFrame (.ref e) env) Q E s := by
  unfold noteFrame
  simp only [hf]
  refine wpAny_bind (wpAny_field he hd h1 ?_)
  rw [if_neg (by decide)]
  have hsz : 1 < vs.size := (Array.getElem?_eq_some_iff.mp h1).1
  have hene : e ∉ (env :: outer).filterMap (·.frame) := fun hm => by
    obtain ⟨_, o, ho, hnf⟩ := hl.mem hm
    rw [he] at ho; injection ho with ho; subst ho; exact hnf vs hd
  refine wpAny_bind (wpAny_frameOf_fun hfr hl hf fun h₁ hs₁ => ?_)
  refine wpAny_bind (wpAny_entryPlaceOf fun pl hpl => ?_)
  unfold EntryCells.newEntry newFields
  refine wpAny_bind (wpAny_newObj_type ?_ (hpl.sizeOk5 _ _ _ _ _))
  have he₁ : h₁.get? e = some oe := (hs₁.2.1 e hene).trans he
  have kb₁ : base.StaysIn h₁ := fun b o hbo => (hs₁.2.1 b fun hm => by rw [(hl.mem hm).1] at hbo; cases hbo).trans (hkb b o hbo)
  generalize htb : ({ cls := .type "traceback", data := .fields ([Value.none, .ref L, .none, rawInt L, .none] ++ (if pl.isEmpty then List.replicate 6 Value.none else pl)).toArray } : Obj) = tb
  have he₂ := Heap.get?_push_of_some (h := h₁) tb he₁
  have hTe : h₁.objs.size ≠ e := Nat.ne_of_gt (Heap.lt_size he₁)
  have hd₃ := Obj.data_mapFields hd (·.setIfInBounds 1 (Value.ref h₁.objs.size))
  have he₃ := Heap.get?_update_self (Obj.mapFields (·.setIfInBounds 1 (Value.ref h₁.objs.size))) he₂ (Obj.isFreed_of_fields hd₃)
  have htd : ∃ ts, tb.data = .fields ts ∧ ts[3]? = some (rawInt L) := by
    subst htb
    exact ⟨_, rfl, by first | (simp; done) | (rcases hpl with rfl | ⟨_, _, _, _, _, _, _, rfl⟩ <;> simp)⟩
  obtain ⟨ts, htd, ht3⟩ := htd
  have hT₃ := (Heap.get?_update_other (h₁.push tb) (Obj.mapFields (·.setIfInBounds 1 (Value.ref h₁.objs.size))) (Ne.symm hTe)).trans (Heap.get?_push_size h₁ (Obj.isFreed_of_fields htd))
  have keep : ∀ b o, b ≠ e → h₁.get? b = some o →
      ((h₁.push tb).update e (Obj.mapFields (·.setIfInBounds 1 (Value.ref h₁.objs.size)))).get? b = some o :=
    fun b o hbe hb => by
      rw [Heap.get?_update_other _ _ (Ne.symm hbe)]
      exact Heap.get?_push_of_some _ hb
  have noRecord : ∀ b o, s.heap.get? b = some o → (∀ vs, o.data ≠ .fields vs) → b ≠ e := fun b o hb hnf q => by
    rw [q, he] at hb; injection hb with hb; subst hb; exact hnf vs hd
  refine wpAny_setField he₂ hd hsz (h _ h₁.objs.size ?_ he₃)
  refine ⟨fun b o hbo => keep b o (fun q => by rw [q, hen] at hbo; cases hbo) (kb₁ b o hbo), hl.of_keeps fun b o hb hnf => ?_, ?_, fun b o hb hnf => ?_⟩
  · obtain ⟨sl, hs⟩ := hs₁.2.2 b o hb
    exact ⟨_, keep b _ (noRecord b o hb hnf) hs, rfl⟩
  · exact ⟨_, _, h₁.objs.size, _, _, he₃, ⟨Obj.cls_mapFields _ _, by rw [Array.getElem?_setIfInBounds_ne (by decide)]; exact h0⟩, hd₃, by simp [hsz], kb₁.fresh, hTe, hT₃, htd, ht3⟩
  · obtain ⟨sl, hs⟩ := hs₁.2.2 b o hb
    exact ⟨sl, keep b _ (noRecord b o hb hnf) hs⟩
/-- the exception is no longer in flight; its fields stay -/
theorem setFlight_keep {base : Heap} {l : List Env} {e : Addr} {cls a0 fl : Value} {ob : Obj} {Q : Unit → Shared → Prop}
    (hkb : base.StaysIn s.heap) (hen : base.get? e = none) (hl : s.heap.FunFrames base l) (ht : s.heap.TracedAtW base e cls a0 fl) (hob : s.heap.get? e = some ob)
    (h : ∀ h', Heap.FlyingW base l e cls a0 h' → s.heap.UpToSlots h' → h'.get? e = some ob → Q () { s with heap := h' }) :
    wpAny M A (setFlight (.ref e) none) Q E s := by
  obtain ⟨oe, vs, T, oT, ts, he, hcls, hd, h1, hnT, hTe, hT, hdT, h3⟩ := ht
  have hsz3 : 3 < ts.size := (Array.getElem?_eq_some_iff.mp h3).1
  have other : ∀ b, b ≠ T → (s.heap.update T (Obj.mapFields (·.setIfInBounds 3 ((none : Option Addr).elim Value.none fun f => rawInt f)))).get? b = s.heap.get? b :=
    fun b hb => Heap.get?_update_other _ _ (Ne.symm hb)
  have noRecord : ∀ b o, s.heap.get? b = some o → (∀ vs, o.data ≠ .fields vs) → b ≠ T := fun b o hb hnf q => by
    rw [q, hT] at hb; injection hb with hb; subst hb; exact hnf ts hdT
  unfold setFlight
  refine wpAny_bind (wpAny_field he hd h1 ?_)
  rw [if_pos (show (Value.ref T != Value.none) = true from by simp)]
  refine wpAny_setField hT hdT hsz3 (h _ ⟨fun b o hbo => (other b fun q => by rw [q, hnT] at hbo; cases hbo).trans (hkb b o hbo), hen,
    hl.of_keeps fun b o hb hnf => ⟨o, (other b (noRecord b o hb hnf)).trans hb, rfl⟩, ?_⟩ (fun b o hb hnf => ⟨o.slots, (other b (noRecord b o hb hnf)).trans hb⟩) ((other e (Ne.symm hTe)).trans hob))
  exact ⟨oe, vs, T, _, _, (other e (Ne.symm hTe)).trans he, hcls, hd, h1, hnT, hTe, Heap.get?_update_self _ hT (Obj.isFreed_of_fields (Obj.data_mapFields hdT _)), Obj.data_mapFields hdT _, by simp [hsz3]⟩
end
end Mine
end
section
open PySem PySem.W PySem.Spec PySem.Calls PyProof.Rows
namespace Mine
set_option maxRecDepth 100000
set_option maxHeartbeats 1000000
section
variable {prog : Program} {w : World} {E : Value → Shared → Prop} {s' : Shared} {A₀ : Around} {base g h : Heap} {outer : List Env} {L a e : Addr} {m : Str → Option Value} {name : Str} {scope : Scope} {cd o : Value} {nm x : Str} {news : Led} {KF : Frag}
  {p : Program} {loose : List Str} {mean : ExcName → Option Value} {mg mb : Str → Option Value} {np pos : Pos} {b₀ : Stmt} {suite : List Stmt} {rest : List ExceptHandler} {Q : Flow → Shared → Prop}
/-- an AttributeError that the frame's own getattr raises, caught in the frame -/
theorem caught_own (K : Below A₀ base outer g) (F : Fr g L h m) (N : News g L h news) (hx : Heap.NewAttrErr h s'.heap e o nm) (XB : KF.In base) (TB : Top p loose mean mg mb base)
    (ex : nsIn KF mainGlobals x = some none) (hv : bootBuiltins x = some (.type "AttributeError")) (hn' : x ≠ "__name__")
    (k : ∀ h' g' t u T, KtsTurn (outer.filterMap (·.frame)) g g' → Fr g' L h' m → News g' L h' news → Below A₀ base outer g' → KF.In g' → Top p loose mean mg mb g' → (∀ b, h.get? b = none → g'.get? b = none) → h.get? e = none →
      h'.get? e = some { cls := .type "AttributeError", data := .fields #[t, .ref T, .none, .none, .bool false, .none, .str nm u, o] } →
      wpAny (model prog w) ((A₀.deeper (envOf name scope L a cd)).mark (some (.ref e))) (execs (b₀ :: suite) (envOf name scope L a cd)) Q
        (notedBy (model prog w) ((A₀.deeper (envOf name scope L a cd)).mark (some (.ref e))) (envOf name scope L a cd) (cameBackBy (model prog w) (A₀.deeper (envOf name scope L a cd)) (envOf name scope L a cd) E)) { s' with heap := h' })
    (hk : scope.kind = .function := by rfl) (hxx : (envOf name scope L a cd).kindOf x = some .globalImplicit := by rfl) (hd : (x == ("__debug__" : Str)) = false := by decide) :
    wpAny (model prog w) (A₀.deeper (envOf name scope L a cd)) (noteFrame (.ref e) (envOf name scope L a cd))
      (fun _ s₂ => wpAny (model prog w) (A₀.deeper (envOf name scope L a cd)) (setFlight (.ref e) none) (fun _ s₃ =>
        wpAny (model prog w) (A₀.deeper (envOf name scope L a cd)) (handleBy (.ref e) (envOf name scope L a cd) (.ExceptHandler (some (.Name x np)) none (b₀ :: suite) pos :: rest)) Q E s₃) E s₂) E s' := by
  have K' := K.push (name := name) (a := a) (cd := cd) F hk
  have hin : ∀ env ∈ (envOf name scope L a cd :: outer), ∀ b, env.frame = some b → b ∈ (envOf name scope L a cd :: outer).filterMap (·.frame) := fun env he b hb => List.mem_filterMap.mpr ⟨env, he, hb⟩
  have hBG : ∀ b o, h.get? b = some o → b ∉ (envOf name scope L a cd :: outer).filterMap (·.frame) → (hideAll h ((envOf name scope L a cd :: outer).filterMap (·.frame))).get? b = some o := fun b o q nm => hideAll_get _ q nm
  have hl : ∀ q ∈ news, (hideAll h ((envOf name scope L a cd :: outer).filterMap (·.frame))).get? q.1 = some q.2 := fun q hq => by
    refine hideAll_get _ (N q hq).1 fun hm => ?_
    obtain ⟨env, he, hf⟩ := List.mem_filterMap.mp hm
    rcases List.mem_cons.mp he with rfl | he
    · exact (N q hq).2.1 (Option.some.inj hf).symm
    · obtain ⟨o, ho, _⟩ := (K.frames.mem (List.mem_filterMap.mpr ⟨env, he, hf⟩)).2
      rw [(N q hq).2.2] at ho; cases ho
  have kb : (hideAll h ((envOf name scope L a cd :: outer).filterMap (·.frame))).StaysIn h := fun b o q => of_hideAll _ q
  have fresh : ∀ b, h.get? b = none → (hideAll h ((envOf name scope L a cd :: outer).filterMap (·.frame))).get? b = none := fun b hb => by
    cases hq : (hideAll h ((envOf name scope L a cd :: outer).filterMap (·.frame))).get? b with
    | none => rfl
    | some o' => have := kb b o' hq; rw [hb] at this; cases this
  obtain ⟨t, u, he⟩ := hx.there
  refine noteFrame_first (base := hideAll h ((envOf name scope L a cd :: outer).filterMap (·.frame))) (a0 := t) K'.stack ((funFrames_hide K'.frames hin).of_keeps fun b o hb _ => ⟨o, hx.keeps b o hb, rfl⟩) rfl he
    (fun b o hb => hx.keeps b o (kb b o hb)) (fresh e hx.new) rfl rfl rfl fun h₄ T hN he4 => ?_
  obtain ⟨k1, k2, k3, k4⟩ := hN
  refine setFlight_keep k1 (fresh e hx.new) k2 k3 he4 fun h₅ hfl₅ up₅ he5 => ?_
  have upA : h.UpToSlots h₅ := ((Heap.UpToSlots.of_keeps hx.keeps).trans k4).trans up₅
  obtain ⟨g₅, T₅, F₅, K₅⟩ := kts_ground K F hBG hfl₅.1 upA
  have X₅ : KF.In g₅ := XB.keeps K₅.stays
  have P₅ : TopRead p loose mg mb g₅ := topRead_of (TB.keeps K₅.stays)
  refine wpAny_handleBy_builtin (X := "AttributeError") (T := "AttributeError") (b := true) subBE (by rw [isSubtype_type]; kernel_rfl) sub_AttributeError (name_B F₅ X₅ P₅ ex hv hn' ⟨rfl, ⟨_, he5, rfl⟩, ?_⟩ hk hxx hd)
  refine setFlight_keep hfl₅.1 (fresh e hx.new) hfl₅.2.2.1 hfl₅.2.2.2.at he5 fun h₆ hfl₆ up₆ he6 => ?_
  have upB := upA.trans up₆
  obtain ⟨g₆, T₆, F₆, K₆⟩ := kts_ground K F hBG hfl₆.1 upB
  have hL : (hideAll h ((envOf name scope L a cd :: outer).filterMap (·.frame))).get? L = none := hideAll_none _ (hin _ (List.mem_cons_self) L rfl)
  refine k h₆ g₆ t u T T₆ F₆ (fun q hq => ⟨hfl₆.1 _ _ (hl q hq), (N q hq).2.1, T₆.none_ _ (N q hq).2.2⟩) K₆ (XB.keeps K₆.stays) (TB.keeps K₆.stays) (fun b hb => T₆.none_ b (kts_none F.keep hb)) hx.new he6
theorem caught_ownE (K : Below A₀ base outer g) (F : Fr g L h m) (N : News g L h news) (hx : Heap.NewAttrErr h s'.heap e o nm) (XB : KF.In base) (TB : Top p loose mean mg mb base)
    (ex : nsIn KF mainGlobals x = some none) (hv : bootBuiltins x = some (.type "AttributeError")) (hn' : x ≠ "__name__")
    (k : ∀ h' g' t u T, KtsTurn (outer.filterMap (·.frame)) g g' → Fr g' L h' m → News g' L h' news → Below A₀ base outer g' → KF.In g' → Top p loose mean mg mb g' → (∀ b, h.get? b = none → g'.get? b = none) → h.get? e = none →
      h'.get? e = some { cls := .type "AttributeError", data := .fields #[t, .ref T, .none, .none, .bool false, .none, .str nm u, o] } →
      wpAny (model prog w) ((A₀.deeper (envOf name scope L a cd)).mark (some (.ref e))) (execs (b₀ :: suite) (envOf name scope L a cd)) Q
        E { s' with heap := h' })
    (hk : scope.kind = .function := by rfl) (hxx : (envOf name scope L a cd).kindOf x = some .globalImplicit := by rfl) (hd : (x == ("__debug__" : Str)) = false := by decide)
    (hE : PassesOwnAt (model prog w) ((A₀.deeper (envOf name scope L a cd)).mark (some (.ref e))) (A₀.deeper (envOf name scope L a cd)) (envOf name scope L a cd) E := by passes_own) :
    wpAny (model prog w) (A₀.deeper (envOf name scope L a cd)) (noteFrame (.ref e) (envOf name scope L a cd))
      (fun _ s₂ => wpAny (model prog w) (A₀.deeper (envOf name scope L a cd)) (setFlight (.ref e) none) (fun _ s₃ =>
        wpAny (model prog w) (A₀.deeper (envOf name scope L a cd)) (handleBy (.ref e) (envOf name scope L a cd) (.ExceptHandler (some (.Name x np)) none (b₀ :: suite) pos :: rest)) Q E s₃) E s₂) E s' :=
  caught_own K F N hx XB TB ex hv hn' (fun h' g' t u T b1 b2 b3 b4 b5 b6 b7 b8 b9 => wpAny_passesOwnAt hE (k h' g' t u T b1 b2 b3 b4 b5 b6 b7 b8 b9)) hk hxx hd
end
end Mine
end
section
open PySem PySem.W PySem.Spec PySem.Calls PyProof.Rows
namespace Mine
set_option maxRecDepth 100000
set_option maxHeartbeats 1000000
abbrev aeObj (t : Addr) (tb cx : Value) (sup : Bool) (u v : Value) : Obj := { cls := .type "AttributeError", data := .fields #[.ref t, tb, cx, .none, .bool sup, .none, u, v] }
theorem entry_unchain : entryFor table "proto.unchain" = some Builtin.«proto.unchain» := entryFor_of_tree (by kernel_rfl)
section
variable {prog : Program} {w : World} {A : Around} {E : Value → Shared → Prop} {s : Shared} {env : Env}
theorem isType_ae {a t : Addr} {tb cx u v : Value} {b c : Value} {Q : Bool → Shared → Prop} (ha : s.heap.get? a = some { cls := .type "AttributeError", data := .fields #[.ref t, tb, cx, b, c, .none, u, v] }) (hq : Q false s) :
    wpAny (model prog w) A (isType (.ref a)) Q E s := by
  simp only [isType, loadHead]
  exact wpAny_bind (wpAny_loadPart ha (wpAny_pure hq))
theorem Raise_fromNone {ex : Expr} {pos cpos : Pos} {kk : Nat} {e1 : Addr} {Q : Flow → Shared → Prop} (hh : A.handled = some (.ref e1))
    (h : wpAny (model prog w) A (eval ex env) (fun x s₁ => ∃ a t u v, x = .ref a ∧ a ≠ e1 ∧ s₁.heap.get? a = some (aeObj t .none .none false u v) ∧ (∃ ob ws, s₁.heap.get? e1 = some ob ∧ ob.data = .fields ws ∧ ws[2]? = some .none) ∧
      ∀ h' : Heap, h'.get? a = some (aeObj t .none (.ref e1) true u v) → (∀ b o, b ≠ a → s₁.heap.get? b = some o → h'.get? b = some o) → E (.ref a) { s₁ with heap := h' }) E s) :
    wpAny (model prog w) A (exec (.Raise (some ex) (some (.Constant .none kk cpos)) pos) env) Q E s := by
  show wpAny _ A (do standAt pos; raiseStmt env (some (do let v ← eval ex env; standAt pos; pure v)) (some (do let v ← eval (.Constant .none kk cpos) env; standAt pos; pure v))) Q E s
  refine wpAny_bind (wpAny_standAt ?_)
  unfold raiseStmt
  dsimp only
  refine wpAny_bind (wpAny_bind (wpAny_mono h (fun x s₁ h₁ => wpAny_bind (wpAny_standAt (wpAny_pure ?_))) fun _ _ x => x))
  obtain ⟨a, t, u, v, rfl, hne, ha, ⟨ob1, ws, ho1, hd1, hw1⟩, hE⟩ := h₁
  refine wpAny_bind (wpAny_holding (wpAny_bind ?_))
  refine wpAny_pure (a := Value.none) ?_
  refine wpAny_bind (wpAny_standAt (wpAny_pure ?_))
  refine wpAny_bind (wpAny_pure ?_)
  refine wpAny_bind (wpAny_holding ?_)
  have hT : s₁.TypeIs (.ref a) "AttributeError" := ⟨_, ha, rfl⟩
  unfold excFromValue isExcClass
  refine wpAny_bind (wpAny_bind (isType_ae ha ?_))
  simp only [Bool.false_eq_true, if_false]
  refine wpAny_pure ?_
  simp only [Bool.false_eq_true, if_false]
  refine wpAny_bind (wpAny_isInstance hT subBE ?_)
  simp only [if_true]
  refine wpAny_pure ?_
  rw [if_pos (by rfl)]
  refine wpAny_bind (wpAny_pure ?_)
  refine wpAny_bind (wpAny_setField ha rfl (by simp) ?_)
  refine wpAny_bind (wpAny_setField (Heap.get?_update_self _ ha rfl) rfl (by simp) ?_)
  generalize hh2 : (s₁.heap.update a _).update a _ = h2
  have ha2 : h2.get? a = some { cls := .type "AttributeError", data := .fields #[.ref t, .none, .none, .none, .bool true, .none, u, v] } := by
    rw [← hh2]
    exact Heap.get?_update_self _ (Heap.get?_update_self _ ha rfl) rfl
  have ke2 : ∀ b o, b ≠ a → s₁.heap.get? b = some o → h2.get? b = some o := fun b o hb e => by
    rw [← hh2]
    exact Heap.get?_update_of_ne _ (Ne.symm hb) (Heap.get?_update_of_ne _ (Ne.symm hb) e)
  clear hh2
  refine wpAny_bind (isType_ae (s := { s₁ with heap := h2 }) ha2 ?_)
  simp only [Bool.false_eq_true, if_false]
  unfold raisedInstance
  have hT2 : (Shared.mk h2 s₁.gens s₁.drawn s₁.toks s₁.os).TypeIs (.ref a) "AttributeError" := ⟨_, ha2, rfl⟩
  refine wpAny_bind (wpAny_bind (wpAny_typeOf hT2 (wpAny_bind (m := typeOf (.type "AttributeError")) (wpAny_pure ?_))))
  rw [if_pos (by decide +kernel)]
  refine wpAny_pure ?_
  unfold setFlight raiseNew
  refine wpAny_bind (wpAny_bind (wpAny_field (x := .none) ha2 rfl rfl ?_))
  rw [if_neg (by decide)]
  refine wpAny_pure (wpAny_bind (wpAny_handled ?_))
  rw [hh]
  dsimp only
  rw [if_pos (by simp; exact Ne.symm hne)]
  have ho1' := ke2 _ _ (Ne.symm hne) ho1
  refine wpAny_bind (wpAny_holding (wpAny_runValue (codeAny_builtin entry_unchain ?_)))
  unfold Builtin.«proto.unchain»
  dsimp only
  refine wpAny_bind (wpAny_field ho1' hd1 hw1 ?_)
  rw [if_pos (by rfl)]
  refine wpAny_pure ?_
  show wpAny _ A (updateField a 2 (Value.ref e1) >>= fun _ => throw (Value.ref a)) _ _ _
  unfold updateField
  refine wpAny_bind (wpAny_bind (wpAny_load ha2 ?_))
  dsimp only
  rw [if_pos (by simp)]
  refine wpAny_update ha2 (wpAny_throw ?_)
  refine hE _ (Heap.get?_update_self _ ha2 rfl) fun b o hb e => ?_
  exact Heap.get?_update_of_ne _ (Ne.symm hb) (ke2 b o hb e)
end
end Mine
end
section
open PySem PySem.W PySem.Spec PySem.Calls PyProof.Rows
namespace Mine
set_option maxRecDepth 100000
set_option maxHeartbeats 1000000
section
variable {prog : Program} {w : World} {A : Around} {E : Value → Shared → Prop} {s : Shared}
theorem getattr_miss_str {x : Str} {t u : Tok} {name : Str} {Q : Value → Shared → Prop} (hmiss : typeLookup (.type "str") name = pure none) (hA : A.handled = none)
    (h : ∀ h' tk e, Heap.NewAttrErr s.heap h' e (.str x t) name → E (.ref e) { s with heap := h', toks := tk }) (hsz : name.length + 100 ≤ sizeLine := by size_fits) :
    wpAny (model prog w) A (call (.builtin "getattr") [.str x t, .str name u]) Q E s := by
  refine kbm_getattr2 ?_
  obtain ⟨hp, g, d, tk, os⟩ := s
  have hT : ∀ s' : Shared, s'.TypeIs (.str x t) "str" := fun _ => rfl
  have f1 := sub_AttributeError
  have f3 := F.slot_str_getattribute.lookup
  have f4 := F.slot_str_getattribute.bind (.str x t)
  have f5 := am_str_getattr_none
  unfold getAttrBy
  repeat (any_goals (first | assumption | ((with_reducible show wpAny _ _ (call (Value.builtin "object.__getattribute__") _ _) _ _ _); refine call_meets F.slot_str_getattribute (hT _) F.entry_object_getattribute (F.args_object_getattribute_2 _ _) (meets_getattribute_miss_str x t name _ hmiss hsz) ⟨hA, fun h' tk' e hx => ?_⟩) | wp_step))
  obtain ⟨t', u', he⟩ := hx.there
  show wpAny _ _ (getattributeRaised _ _ _ _ _ _ _) _ _ _
  unfold getattributeRaised
  repeat (any_goals (first | assumption | wp_step))
  exact h _ _ _ hx
end
end Mine
end
section
open PySem PySem.W PySem.Spec PySem.Calls PyProof.Rows
namespace Mine
set_option maxRecDepth 100000
set_option maxHeartbeats 1000000
section
variable {prog : Program} {w : World} {A : Around} {E : Value → Shared → Prop} {s : Shared} {K : Frag} {x C : Addr} {ox od : Obj} {name : Str} {t : Tok}
theorem kbm_miss {Q : Value → Shared → Prop} (X : K.In s.heap) (I : InstAt s.heap x ox C (some od)) (hga : findIn K (.ref C) "__getattribute__" = some (some (.builtin "object.__getattribute__")))
    (hf : findObj K C (some od) name = some .missing) (hk : findIn K (.ref C) "__getattr__" = some none) (hA : A.handled = none) {n : String} (hn : Looks (model prog w) s.heap (typeNameOfCut 100 (.ref x)) n) (hsz : (Str.ofString (toString "'" ++ toString n ++ toString "' object has no attribute '")  ++ name ++ Str.ofString "'").length ≤ sizeLine)
    (h : ∀ h' tk e, Heap.NewAttrErr s.heap h' e (.ref x) name → E (.ref e) { s with heap := h', toks := tk }) :
    wpAny (model prog w) A (getAttrBy (.ref x) (.str name t) true) Q E s := by
  refine kbm_open X I hga ?_
  obtain ⟨hh', gg, d, tk, os⟩ := s
  have L0 := I.type (M := model prog w)
  have L1 := looks_find (M := model prog w) X I hf
  have L2 := looks_findIn (M := model prog w) X hk
  refine wpAny_bind (wpAny_pure (wpAny_bind (L0.at (wpAny_bind (L1.at (wpAny_bind (L2.at ?_)))))))
  show wpAny _ _ (Builtin.ObjectAttr.noSuchAttribute (.ref x) name) _ _ _
  unfold Builtin.ObjectAttr.noSuchAttribute
  refine wpAny_bind (hn.at ?_)
  refine wpAny_raiseAttrError hA (fun h' tk' e hx => ?_) hsz
  show wpAny _ _ (noteAttr (.ref e) (.ref x) (.str name t)) _ _ _
  obtain ⟨t', u', he⟩ := hx.there
  unfold noteAttr
  have f1 := sub_AttributeError
  repeat (any_goals (first | assumption | wp_step))
  all_goals exact h _ _ _ hx
end
end Mine
end
section
open PySem PySem.W PySem.Spec PySem.Calls PyProof.Rows
namespace Mine
set_option maxRecDepth 100000
set_option maxHeartbeats 1000000
theorem st_name (w : World) {h : Heap} (X : (kk.heap_1 w.params).In h) {x d : Addr} {nm tp dc : Value} (hx : h.get? x = some (stObj d nm tp dc)) :
    Looks (model PySem.Challenge.rw_in0200_01.row.prog w) h (typeNameOfCut 100 (.ref x)) "StackObject" := by
  have e : Looks (model PySem.Challenge.rw_in0200_01.row.prog w) h (typeNameCut 100 (.ref 107)) "StackObject" := Looks.of_peek X (by kernel_rfl)
  refine Looks.andThen (a := .ref 107) ?_ e
  have t1 : Looks (model PySem.Challenge.rw_in0200_01.row.prog w) h (typeOf (.ref x)) (.ref 107) := (Looks.ld hx).andThen .now
  exact t1.andThen .now
theorem findObj_missing {K : Frag} {C : Addr} {name : Str} (hc : isClsIn K C = true) (ha : findIn K (.ref C) name = some none) (hcp : copiedNames.contains name = false) : findObj K C (some emptyDict) name = some .missing := by
  obtain ⟨cd, hc⟩ := Option.isSome_iff_exists.mp hc
  have ho : W.ownOf cd (some emptyDict) name = some none := by
    unfold W.ownOf
    split
    · rfl
    · rfl
  unfold findObj
  rw [hc, Option.bind_some, ha, Option.bind_some]
  simp only [Option.bind_some, ho, hcp, Bool.false_and, Bool.false_eq_true, if_false]
/-- getattr of a stack object that has no such name -/
theorem getattr_miss_st (w : World) {A : Around} {s : Shared} {x d : Addr} {nm tp dc : Value} {name : Str} {u : Tok} {Q E : Value → Shared → Prop} (X : (kk.heap_1 w.params).In s.heap) (hx : s.heap.get? x = some (stObj d nm tp dc)) (hd' : s.heap.get? d = some emptyDict)
    (hname : name = Str.ofString "reader" ∨ name = Str.ofString "" ∨ name = Str.ofString "n") (hA : A.handled = none)
    (h : ∀ h' tk e, Heap.NewAttrErr s.heap h' e (.ref x) name → E (.ref e) { s with heap := h', toks := tk }) :
    wpAny (model PySem.Challenge.rw_in0200_01.row.prog w) A (call (.builtin "getattr") [.ref x, .str name u]) Q E s := by
  have : Fill PySem.Challenge.rw_in0200_01 kk.heap_1 := by k_fill; trivial
  clear this
  have I : InstAt s.heap x (stObj d nm tp dc) 107 (some emptyDict) := ⟨hx, rfl, rfl, hd'⟩
  refine kbm_getattr2 ?_
  rcases hname with rfl | rfl | rfl
  all_goals exact kbm_miss X I (by k_is) (findObj_missing (by k_is) (by k_is) (by decide)) (by k_is) hA (st_name w X hx) (by decide) h
end Mine
end
section
open PySem PySem.W PySem.Spec PySem.Calls PyProof.Rows
namespace Mine
set_option maxRecDepth 100000
set_option maxHeartbeats 1000000
section
variable {prog : Program} {w : World} {A : Around} {E : Value → Shared → Prop} {s : Shared}
theorem getattr_none_type : typeLookup (.type "type") "__getattr__" = pure none := by rw [typeLookup_type, builtinLookup_eq_fast]; kernel_rfl
theorem miss_int_new {msg : Str} {α : Type} {Q : α → Shared → Prop} (hA : A.handled = none)
    (h : ∀ h' tk e t, (∀ b ob, s.heap.get? b = some ob → h'.get? b = some ob) → s.heap.get? e = none → h'.get? e = some { cls := .type "AttributeError", data := .fields #[t, .none, .none, .none, .bool false, .none, rawInt 0, rawInt 0] } → E (.ref e) { s with heap := h', toks := tk }) (hm : msg.length ≤ sizeLine) :
    wpAny (model prog w) A (raiseErrorStr "AttributeError" msg : Sem α) Q E s := by
  unfold raiseErrorStr
  refine wpAny_bind (wpAny_mkStr ?_ hm)
  refine wpAny_bind ?_
  unfold newExc newTuple
  refine wpAny_bind (wpAny_newObj_type ?_ (by size_fits))
  refine wpAny_bind (m := firstArgMember _ _) (wpAny_of_eq (a := Value.none) (by simp only [firstArgMember, attrError_no_first]; rfl) ?_)
  rw [ownMembersOf_AttributeError]
  refine wpAny_newObj_type ?_ (by size_fits)
  unfold raiseNew
  refine wpAny_bind (wpAny_handled ?_)
  rw [hA]
  first
    | refine wpAny_throw ?_
    | refine wpAny_bind (wpAny_pure (wpAny_throw ?_))
  dsimp only
  refine h _ _ _ _ (fun b ob hb => Heap.get?_push_of_some _ (Heap.get?_push_of_some _ hb)) (Heap.get?_none_of_le (by simp)) (Heap.get?_push_size _ rfl)
theorem getattr_miss_int {name : Str} {u : Tok} {Q : Value → Shared → Prop} (hmiss : typeLookup (.type "int") name = pure none) (hmeta : typeLookup (.type "type") name = pure none) (hsz : name.length ≤ 100) (hA : A.handled = none)
    (h : ∀ h' tk e, Heap.NewAttrErr s.heap h' e (.type "int") name → E (.ref e) { s with heap := h', toks := tk }) :
    wpAny (model prog w) A (call (.builtin "getattr") [.type "int", .str name u]) Q E s := by
  refine kbm_getattr2 ?_
  obtain ⟨hp, g, d, tk, os⟩ := s
  have f3 := KF.slot_tga.lookup
  have f4 := KF.slot_tga.bind (.type "int")
  have tyi : typeOf (.type "int") = pure (.type "type") := kitMeta_of (by decide +kernel)
  have opq : opaqueClassAbove (.type "int") = pure none := by kernel_rfl
  have tnc : typeNameCut 100 (.type "int") = pure "int" := by kernel_rfl
  unfold getAttrBy
  refine wpAny_holding ?_
  refine wpAny_bind (wpAny_of_eq tyi ?_)
  refine wpAny_bind (wpAny_of_eq f3 ?_)
  dsimp only
  rw [if_neg (by decide +kernel)]
  unfold getAttrByItsOwn hookBefore
  rw [if_neg (by decide +kernel)]
  refine wpAny_bind (wpAny_pure (wpAny_bind (wpAny_attempt (wpAny_holding ?_))))
  unfold callGetattribute
  rw [if_neg (by decide +kernel)]
  unfold boundAndCalled
  refine wpAny_bind (wpAny_of_eq f4 ?_)
  dsimp only
  show wpAny _ _ (call (.builtin "type.__getattribute__") [.type "int", .str name u]) _ _ _
  refine wpAny_call (codeAny_call_builtin KF.slot_tga.plain KF.entry_tga (KF.slot_tga.check _ _ _ _ _ _ _ _ (show (⟨hp, g, d, tk, os⟩ : Shared).TypeIs (.type "int") "type" from tyi) (KF.args_tga _ _) ?_))
  unfold Builtin.«type.__getattribute__»
  refine wpAny_bind (wpAny_pure (wpAny_bind (wpAny_of_eq opq (wpAny_bind (wpAny_of_eq tyi (wpAny_bind (wpAny_of_eq hmeta ?_)))))))
  refine wpAny_bind (wpAny_pure ?_)
  refine wpAny_bind (wpAny_of_eq hmiss ?_)
  dsimp only
  refine wpAny_bind (wpAny_rule ?_)
  refine wpAny_bind (wpAny_of_eq tnc ?_)
  refine miss_int_new hA (fun h' tk' e t k n he => ?_) ?_
  · show wpAny _ _ (getattributeRaised _ _ _ _ _ _ _) _ _ _
    have hT : (Shared.mk h' g d tk' os).TypeIs (.ref e) "AttributeError" := ⟨_, he, rfl⟩
    unfold getattributeRaised
    refine wpAny_bind (wpAny_isInstance hT sub_AttributeError ?_)
    rw [if_pos rfl]
    unfold hookBehind
    rw [if_neg (by decide +kernel)]
    refine wpAny_bind (wpAny_of_eq getattr_none_type ?_)
    unfold hookOrError attributeErrorLeaves
    dsimp only
    rw [if_neg (by decide)]
    unfold noteAttr lacksNameAndObj
    have f1 := sub_AttributeError
    refine wpAny_bind ?_
    repeat (any_goals (first | assumption | wp_step))
    refine h _ _ _ ⟨fun b ob hb => ?_, n, ?_⟩
    · refine (Heap.get?_update_other _ _ ?_).trans (k _ _ hb)
      rintro rfl
      rw [show hp.get? _ = _ from n] at hb
      cases hb
    · exact ⟨_, _, Heap.get?_update_self _ he rfl⟩
  · have e1 : Str.ofString (toString "type object '" ++ toString "int" ++ toString "' has no attribute '") = Str.ofString "type object 'int' has no attribute '" := rfl
    show (Str.ofString (toString "type object '" ++ toString "int" ++ toString "' has no attribute '") ++ name ++ Str.ofString "'").length ≤ sizeLine
    rw [sizeLine_eq, e1, strLen_append, strLen_append, PySem.ofString_length, PySem.ofString_length]
    have : "type object 'int' has no attribute '".length = 36 := by decide
    have : "'".length = 1 := by decide
    (first | lia | omega)
end
end Mine
end
section
open PySem PySem.W PySem.Spec PySem.Calls PyProof.Rows
namespace Mine
set_option maxRecDepth 100000
set_option maxHeartbeats 1000000
local macro_rules | `(tactic| k_inst) => `(tactic| assumption)
abbrev arrM (hv : Option Value) (dp un : Nat) (gd : Option (List Code)) (fr : List Env) : Around := { handled := hv, depth := dp, frames := some fr, guards := gd, units := un }
/-- a contract of a call out of a handler -/
def CtrH (w : World) (K : Frag) (f : Value) (vs : List Value) (Pre : Heap → Prop) (Post : Heap → Value → Heap → Prop) (d u : Nat) : Prop :=
  ∀ (hv : Option Value) (dp un : Nat) (gd : Option (List Code)) (fr : List Env) (s : Shared) (R : Result → Shared → Prop),
    Site K dp un gd fr s.heap → Pre s.heap → dp + d < recursionLimit → un + u < cLine →
    (∀ (v : Value) (h' : Heap) (tk' : Nat), Stay [] s.heap h' → Post s.heap v h' → R (.ok (.ret v)) { s with heap := h', toks := tk' }) →
    codeAny (model PySem.Challenge.rw_in0200_01.row.prog w) (arrM hv dp un gd fr) (.call f ⟨vs, []⟩) R s
theorem ctr_enterH {w : World} {K : Frag} {f : Addr} {vs : List Value} {Pre : Heap → Prop} {Post : Heap → Value → Heap → Prop} {d u : Nat}
    {name qual : Str} {params : Arguments} {body : List Stmt} {scope : Scope} {dV kV doc pm cdv ct oc : Value} {an od : Option Addr} {osl : Array (Option Value)}
    (binds : List (Str × Value))
    (ho : K.lookup f = some ⟨oc, od, .func (fnOf name qual params body scope dV kV doc pm an cdv ct), osl⟩) (hcd : codeIn K cdv qual = true) 
    (hbind : ∀ s : Shared, K.In s.heap → BindsTo s (fnOf name qual params body scope dV kV doc pm an cdv ct) ⟨vs, []⟩ binds) (hloc : ∀ y ∈ binds, scope.names.lookup y.1 = some .local)
    (h : ∀ (hv : Option Value) (dp un : Nat) (gd : Option (List Code)) (fr : List Env) (base : Heap) (p : Program) (loose : List Str) (mean : ExcName → Option Value) (mg mb : Str → Option Value) (s : Shared) (L' : Addr) (h₁ : Heap) (tk : Nat),
      Below (arrM hv dp un gd fr) base fr s.heap → K.In s.heap → Top p loose mean mg mb s.heap → Pre s.heap → dp + d < recursionLimit → un + u < cLine →
      Fr s.heap L' h₁ (fun y => binds.reverse.lookup y) → News s.heap L' h₁ [] →
      wpAny (model PySem.Challenge.rw_in0200_01.row.prog w) ((arrM hv dp un gd fr).deeper (envOf qual scope L' f cdv)) (execs body (envOf qual scope L' f cdv))
        (DoneC s.heap L' s (Post s.heap)) (fun _ _ => False) { s with heap := h₁, toks := tk })
    (hcell : ∀ x ∈ scope.names, x.2 ≠ .cell := by decide) (hco : scope.isCoroutine = false := by rfl) (hgen : scope.isGenerator = false := by rfl) (hk : scope.kind = .function := by rfl) :
    CtrH w K (.ref f) vs Pre Post d u := by
  rintro hv dp un gd fr s R ⟨⟨base, B⟩, X, ⟨p, loose, mean, mg, mb, T⟩⟩ hpre hdp hun hret
  have B' : Below (arrM hv dp un gd fr) base fr s.heap := ⟨rfl, B.stays, B.frames⟩
  have hroom : (arrM hv dp un gd fr).depth < recursionLimit := Nat.lt_of_le_of_lt (Nat.le_add_right _ _) hdp
  refine codeAny_call_def (fd := fnOf name qual params body scope dV kV doc pm an cdv ct) (body := body) (binds := binds) hroom (X _ _ ho) rfl T.nolimit (codeRec_of X hcd) rfl (hbind s X) hcell hloc (fun h₁ hns hk₁ => ?_) hco hgen hk
  refine wpAny_mono (h hv dp un gd fr base p loose mean mg mb s s.heap.objs.size h₁ _ B' X T hpre hdp hun ⟨hns, hk₁, Nat.le_refl _⟩
    (fun _ hp => (List.not_mem_nil hp).elim)) (fun fl s' hl => ?_) fun _ _ y => y.elim
  obtain ⟨h', tk', m', rfl, F', hp⟩ := hl
  exact hret _ h' tk' (fun b o n e => F'.keep b o e) hp
theorem ctr_useH {w : World} {K : Frag} {f : Value} {vs : List Value} {Pre : Heap → Prop} {Post : Heap → Value → Heap → Prop} {d u : Nat}
    (C : CtrH w K f vs Pre Post d u) {hv : Option Value} {A₀ : Around} {base h₀ : Heap} {outer : List Env} {env : Env} {L : Addr} {m : Str → Option Value} {s : Shared} {news : Led} {dp un : Nat} {gd : Option (List Code)}
    {p : Program} {loose : List Str} {mean : ExcName → Option Value} {mg mb : Str → Option Value} {Q E : Value → Shared → Prop}
    (B : Below A₀ base outer h₀) (F : Fr h₀ L s.heap m) (X : K.In h₀) (N : News h₀ L s.heap news) (T : Top p loose mean mg mb h₀) (hf : env.frame = some L) (hke : env.scope.kind = .function)
    (hpre : Pre s.heap) (hd : dp + d < recursionLimit) (hu : un + u < cLine)
    (ret : ∀ (v : Value) (h' : Heap) (tk' : Nat), Fr h₀ L h' m → News h₀ L h' news → (∀ b o, s.heap.get? b = some o → h'.get? b = some o) → Post s.heap v h' → Q v { s with heap := h', toks := tk' }) :
    wpAny (model PySem.Challenge.rw_in0200_01.row.prog w) (arrM hv dp un gd (env :: outer)) (call f vs) Q E s := by
  have site : Site K dp un gd (env :: outer) (gOf s.heap []) := site_of B F X (fun p hp => (List.not_mem_nil hp).elim) T hf hke
  refine wpAny_call (C hv dp un gd (env :: outer) s _ site hpre hd hu fun v h' tk' st hp => ?_)
  exact ret v h' tk' (Fr.stay F (fun p hp => (List.not_mem_nil hp).elim) st) (News.stay N st fun p hp h => nomatch h) (fun b o e => st b o (fun h => nomatch h) e) hp
theorem repr_stH (w : World) (x d : Addr) (nm tp dc : Value) :
    CtrH w (kk.heap_1 w.params) (.ref 103) [.ref x] (fun h => h.get? x = some (stObj d nm tp dc) ∧ h.get? d = some emptyDict ∧ handedIn nm = true) (fun h v h' => v = nm) 3 30 := by
  have : Fill PySem.Challenge.rw_in0200_01 kk.heap_1 := by k_fill; trivial
  clear this
  refine ctr_enterH [(Str.ofString "self", .ref x)] (by k_is) (by k_is) (fun s X => BindsTo.of_eq rfl) (locs rfl) ?_
  intro hv dp un gd fr base p loose mean mg mb s L' h₁ tk B' X' T' hpre hdp hun F' N'
  obtain ⟨hx, hd', hh⟩ := hpre
  have I : InstAt h₁ x (stObj d nm tp dc) 107 (some emptyDict) := ⟨F'.keep _ _ hx, rfl, rfl, F'.keep _ _ hd'⟩
  k_steps
  refine get_slot (ox := stObj d nm tp dc) (i := 1) F' X' I (by k_is) (by k_is) (by k_is) (by k_is) (by k_is) (by k_is) rfl hh ?_
  k_steps
  all_goals (try dsimp only)
  exact DoneC.intro F' rfl
/-- repr of a stack object, in a handler -/
theorem repr_useH (w : World) {hv : Option Value} {x d : Addr} {nm : Str} {tn : Tok} {tp dc : Value} {A₀ : Around} {base h₀ : Heap} {outer : List Env} {env : Env} {L : Addr} {m : Str → Option Value} {s : Shared} {dp un : Nat} {gd : Option (List Code)}
    {p : Program} {loose : List Str} {mean : ExcName → Option Value} {mg mb : Str → Option Value} {Q E : Value → Shared → Prop} {news : Led}
    (B : Below A₀ base outer h₀) (F : Fr h₀ L s.heap m) (X : (kk.heap_1 w.params).In h₀) (N : News h₀ L s.heap news) (T : Top p loose mean mg mb h₀) (hf : env.frame = some L) (hke : env.scope.kind = .function)
    (hx : s.heap.get? x = some (stObj d (.str nm tn) tp dc)) (hd' : s.heap.get? d = some emptyDict) (hdp : dp + 3 < recursionLimit) (hu : un + 31 < cLine)
    (h : ∀ h' tk', Fr h₀ L h' m → News h₀ L h' news → (∀ b o, s.heap.get? b = some o → h'.get? b = some o) → Q (.str nm tn) { s with heap := h', toks := tk' }) :
    wpAny (model PySem.Challenge.rw_in0200_01.row.prog w) (arrM hv dp un gd (env :: outer)) (pyReprObj (.ref x)) Q E s := by
  have : Fill PySem.Challenge.rw_in0200_01 kk.heap_1 := by k_fill; trivial
  clear this
  have Xs : (kk.heap_1 w.params).In s.heap := X.keeps F.keep
  have I : InstAt s.heap x (stObj d (.str nm tn) tp dc) 107 (some emptyDict) := ⟨hx, rfl, rfl, hd'⟩
  have hs : findIn (kk.heap_1 w.params) (.ref 107) "__repr__" = some (some (.ref 103)) := by k_is
  have hfn : isFn (kk.heap_1 w.params) (.ref 103) = true := by k_is
  unfold pyReprObj
  refine wpAny_bind (wpAny_cRoomFor (by show un < cLine; (first | lia | omega)) ?_)
  refine wpAny_bind (wpAny_bind (I.type.here ((looks_findIn Xs hs).here ?_)))
  show wpAny _ _ (if (some (Value.ref 103)).isNone = true then _ else _) _ _ _
  rw [if_neg (by simp)]
  refine wpAny_bind (m := callSpecialIfBound? (.ref x) (Str.ofString "__repr__") _) (ifBound_K Xs I hs hfn ?_)
  refine ctr_useH (repr_stH w x d (.str nm tn) tp dc) B F X N T hf hke ⟨hx, hd', rfl⟩ hdp (by (first | lia | omega)) fun v h' tk' F' N' k hv => ?_
  subst hv
  refine wpAny_bind (wpAny_isInstance (PySem.typeIs_str _ _ _) isSubtype_str_str ?_)
  first | exact wpAny_pure (h h' tk' F' N' k) | (rw [if_pos rfl]; exact wpAny_pure (h h' tk' F' N' k)) | (show wpAny _ _ (pure _) _ _ _; exact wpAny_pure (h h' tk' F' N' k))
theorem fmt_att_stH (w : World) {hv : Option Value} {x d : Addr} {nm path : Str} {tn t tp' : Tok} {tp dc : Value} {A₀ : Around} {base h₀ : Heap} {outer : List Env} {env : Env} {L : Addr} {m : Str → Option Value} {s : Shared} {dp un : Nat} {gd : Option (List Code)}
    {p : Program} {loose : List Str} {mean : ExcName → Option Value} {mg mb : Str → Option Value} {Q E : Value → Shared → Prop} {news : Led}
    (B : Below A₀ base outer h₀) (F : Fr h₀ L s.heap m) (X : (kk.heap_1 w.params).In h₀) (N : News h₀ L s.heap news) (T : Top p loose mean mg mb h₀) (hf : env.frame = some L) (hke : env.scope.kind = .function)
    (hx : s.heap.get? x = some (stObj d (.str nm tn) tp dc)) (hd' : s.heap.get? d = some emptyDict) (hdp : dp + 3 < recursionLimit) (hu : un + 32 < cLine) (hr : (reprText path).length ≤ 1000) (hn : nm.length ≤ 1000)
    (h : ∀ h' t' tk', Fr h₀ L h' m → News h₀ L h' news → (∀ b o, s.heap.get? b = some o → h'.get? b = some o) → Q (.str (((Str.ofString "Can't get attribute " ++ reprText path) ++ Str.ofString " on ") ++ nm) t') { s with heap := h', toks := tk' }) :
    wpAny (model PySem.Challenge.rw_in0200_01.row.prog w) (arrM hv dp un gd (env :: outer)) (call (.builtin "str.format") [.str (Str.ofString "Can't get attribute {!r} on {!r}") t, .str path tp', .ref x]) Q E s :=
  fmt_att (P := fun h' => Fr h₀ L h' m ∧ News h₀ L h' news ∧ (∀ b o, s.heap.get? b = some o → h'.get? b = some o)) hr hn
    (fun Q k hq => repr_useH w (s := { s with toks := k }) (un := un + 1) B F X N T hf hke hx hd' hdp (by (first | lia | omega)) fun h' tk' F' N' ke => hq h' _ tk' ⟨F', N', ke⟩)
    fun h' t' k p => h h' t' k p.1 p.2.1 p.2.2
end Mine
end
section
open PySem PySem.W PySem.Spec PySem.Calls PyProof.Rows
namespace Mine
set_option maxRecDepth 100000
set_option maxHeartbeats 4000000
/-- A contract of a call that raises AttributeError; Pre: of the frames and the heap, Exc: of its arguments -/
def CtrF (w : World) (K : Frag) (f : Value) (vs : List Value) (Pre : List Env → Heap → Prop) (Exc : Heap → List Value → Prop) (d u : Nat) : Prop :=
  ∀ (dp un : Nat) (gd : Option (List Code)) (fr : List Env) (base : Heap) (s : Shared) (R : Result → Shared → Prop) (p : Program) (loose : List Str) (mean : ExcName → Option Value) (mg mb : Str → Option Value),
    Below (arr dp un gd fr) base fr s.heap → K.In base → Top p loose mean mg mb base → Pre fr s.heap → dp + d < recursionLimit → un + u < cLine →
    (∀ (h' : Heap) (e t : Addr) (tk' : Nat) (xs : List Value), RaisedS base s.heap fr e (.type "AttributeError") t xs [] h' → s.heap.UpToSlots h' → Exc s.heap xs → R (.error (.ref e)) { s with heap := h', toks := tk' }) →
    codeAny (model PySem.Challenge.rw_in0200_01.row.prog w) (arr dp un gd fr) (.call f ⟨vs, []⟩) R s
theorem ctr_enterF {w : World} {K : Frag} {f : Addr} {vs : List Value} {Pre : List Env → Heap → Prop} {Exc : Heap → List Value → Prop} {d u : Nat}
    {name qual : Str} {params : Arguments} {body : List Stmt} {scope : Scope} {dV kV doc pm cdv ct oc : Value} {an od : Option Addr} {osl : Array (Option Value)}
    (binds : List (Str × Value))
    (ho : K.lookup f = some ⟨oc, od, .func (fnOf name qual params body scope dV kV doc pm an cdv ct), osl⟩) (hcd : codeIn K cdv qual = true) 
    (hbind : ∀ s : Shared, K.In s.heap → BindsTo s (fnOf name qual params body scope dV kV doc pm an cdv ct) ⟨vs, []⟩ binds) (hloc : ∀ y ∈ binds, scope.names.lookup y.1 = some .local)
    (h : ∀ (dp un : Nat) (gd : Option (List Code)) (fr : List Env) (base : Heap) (p : Program) (loose : List Str) (mean : ExcName → Option Value) (mg mb : Str → Option Value) (s : Shared) (L' : Addr) (h₁ : Heap) (tk : Nat) (R : Result → Shared → Prop),
      Below (arr dp un gd fr) base fr s.heap → K.In base → K.In s.heap → Top p loose mean mg mb base → Top p loose mean mg mb s.heap → Pre fr s.heap → dp + d < recursionLimit → un + u < cLine →
      Fr s.heap L' h₁ (fun y => binds.reverse.lookup y) → News s.heap L' h₁ [] →
      (∀ (h' : Heap) (e t : Addr) (tk' : Nat) (xs : List Value), RaisedS base s.heap fr e (.type "AttributeError") t xs [] h' → s.heap.UpToSlots h' → Exc s.heap xs → R (.error (.ref e)) { s with heap := h', toks := tk' }) →
      wpAny (model PySem.Challenge.rw_in0200_01.row.prog w) ((arr dp un gd fr).deeper (envOf qual scope L' f cdv)) (execs body (envOf qual scope L' f cdv))
        (fun _ _ => False) (fun e s' => wpAny (model PySem.Challenge.rw_in0200_01.row.prog w) ((arr dp un gd fr).deeper (envOf qual scope L' f cdv)) (leaving (envOf qual scope L' f cdv) e) (fun _ s'' => R (.error e) s'') (fun e' s'' => R (.error e') s'') s') { s with heap := h₁, toks := tk })
    (hcell : ∀ x ∈ scope.names, x.2 ≠ .cell := by decide) (hco : scope.isCoroutine = false := by rfl) (hgen : scope.isGenerator = false := by rfl) (hk : scope.kind = .function := by rfl) :
    CtrF w K (.ref f) vs Pre Exc d u := by
  intro dp un gd fr base s R p loose mean mg mb B XB TB hpre hdp hun hret
  have Xs : K.In s.heap := XB.keeps B.stays
  have Ts := TB.keeps B.stays
  have hroom : (arr dp un gd fr).depth < recursionLimit := Nat.lt_of_le_of_lt (Nat.le_add_right _ _) hdp
  refine codeAny_call_def (fd := fnOf name qual params body scope dV kV doc pm an cdv ct) (body := body) (binds := binds) hroom (Xs _ _ ho) rfl Ts.nolimit (codeRec_of Xs hcd) rfl (hbind s Xs) hcell hloc (fun h₁ hns hk₁ => ?_) hco hgen hk
  exact wpAny_mono (h dp un gd fr base p loose mean mg mb s s.heap.objs.size h₁ _ R B XB Xs TB Ts hpre hdp hun ⟨hns, hk₁, Nat.le_refl _⟩ (fun _ hp => (List.not_mem_nil hp).elim) hret) (fun _ _ x => x.elim) fun _ _ x => x
/-- getattr(v, name) misses, wherever the heap h stands -/
def Misses (w : World) (h : Heap) (v : Value) (name : Str) : Prop :=
  ∀ (A : Around) (Q E : Value → Shared → Prop) (s : Shared) (t : Tok), (∀ b o, h.get? b = some o → s.heap.get? b = some o) → A.handled = none →
    (∀ h' tk e, Heap.NewAttrErr s.heap h' e v name → E (.ref e) { s with heap := h', toks := tk }) →
    wpAny (model PySem.Challenge.rw_in0200_01.row.prog w) A (call (.builtin "getattr") [v, .str name t]) Q E s
theorem raisedS_turn {base g g' h : Heap} {outer : List Env} {e t : Addr} {cls : Value} {vs : List Value} (T : KtsTurn (outer.filterMap (·.frame)) g g') (R : RaisedS base g' outer e cls t vs [] h) : RaisedS base g outer e cls t vs [] h := by
  obtain ⟨⟨B, a, b, c, dd, ee⟩, tt⟩ := R
  exact ⟨⟨B, a, fun x o q n => b x o (T.other x o q n) n, fun q hq => (List.not_mem_nil hq).elim, dd, ee⟩, tt⟩
theorem upTo_turn {fs : List Addr} {g g' h : Heap} (T : KtsTurn fs g g') (k : g'.UpToSlots h) : g.UpToSlots h := by
  intro b o q n
  obtain ⟨sl, e⟩ := T.up q
  obtain ⟨sl2, e2⟩ := k b _ e n
  exact ⟨sl2, e2⟩
local macro_rules | `(tactic| walk_at "exec Raise some none") => `(tactic| (k_here; (with_unfolding_all refine Raise_newA ?kh ?_); (case kh => with_unfolding_all exact rfl)))
theorem ga_bad (w : World) (x d : Addr) (nm dc : Str) (tn td : Tok) (tp : Value) (path : Str) (t : Tok) (parts : List Str) (hsp : Txt.split path (Str.ofString ".") = parts) (hlen : path.length ≤ 1000) (hrl : (reprText path).length ≤ 1000) (hnl : nm.length ≤ 1000)
    (j : Nat) (pj : Str) (chain : Nat → Value) (h0 : chain 0 = .ref x) (hj : parts[j]? = some pj) (hpm : ∀ i p, i < j → parts[i]? = some p → p ∈ pcs) (msg : Str)
    (bad : (pj = Str.ofString "<locals>" ∧ msg = ((Str.ofString "Can't get local attribute " ++ reprText path) ++ Str.ofString " on ") ++ nm) ∨ (pj ∈ pcs ∧ msg = ((Str.ofString "Can't get attribute " ++ reprText path) ++ Str.ofString " on ") ++ nm)) :
    CtrF w (kk.heap_1 w.params) (.ref 35) [.ref x, .str path t] (fun fr h => h.get? x = some (stObj d (.str nm tn) tp (.str dc td)) ∧ h.get? d = some emptyDict ∧ x ∉ fr.filterMap (·.frame) ∧ d ∉ fr.filterMap (·.frame) ∧
      (∀ i p, i < j → parts[i]? = some p → Gets w h (chain i) p (chain (i + 1))) ∧ (pj ∈ pcs → Misses w h (chain j) pj)) (fun _ xs => ∃ tt, xs = [.str msg tt]) 10 100 := by
  have : Fill PySem.Challenge.rw_in0200_01 kk.heap_1 := by k_fill; trivial
  clear this
  refine ctr_enterF [(Str.ofString "obj", .ref x), (Str.ofString "name", .str path t)] (by k_is) (by k_is) (fun s X => BindsTo.of_eq rfl) (locs rfl) ?_
  intro dp un gd fr base p loose mean mg mb s L' h₁ tk R B XB X' TB T' hpre hdp hun F' N' hret
  obtain ⟨hx0, hd0, hxf, hdf, hgets, hmiss⟩ := hpre
  (repeat' ((fail_if_success (with_reducible show wpAny _ _ (call (Value.builtin "str.split") _) _ _ _)); first | (k_unfold; (try dsimp only)) | (k_end; kc_close) | walk1 | (dsimp only; walk1) | (leave1; (try dsimp only))))
  rename Fr _ _ _ _ => F''; rename News _ _ _ _ => N''
  refine' splitN1A (hsz := ?hz) ?k1 ?k2 ?hy ?_; (case k1 => exact F''); (case k2 => exact N''); (case hy => decide); (case hz => rw [sizeLine_eq]; (first | lia | omega)); intro l h' k e are short hl F1 N1
  rw [hsp] at e
  refine iter_list (ep := 0) (J := fun i m news => i ≤ j ∧ news = [] ∧ ∃ par sub, m = gaMap (.ref x) path t (chain i) par sub) rfl rfl rfl F1 N1 ?_ ?_ ?_
  · exact ⟨Nat.zero_le _, rfl, none, none, by rw [h0]; exact gaMap_start⟩
  · rintro i v m₁ news₁ h tk I io hv ⟨hij, rfl, par, sub, rfl⟩ hio F' N' hI
    clear F'' F1 N1
    obtain ⟨p9, q, hp, rfl⟩ : ∃ p q, parts[i]? = some p ∧ v = .str p q := by
      subst e
      simp only [strValues, List.getElem?_map, Option.map_eq_some_iff] at hv ⊢
      obtain ⟨x, hx, rfl⟩ := hv
      exact ⟨x.1, x.2, ⟨x, hx, rfl⟩, rfl⟩
    rcases Nat.lt_or_eq_of_le hij with hlt | rfl
    · have hpm' := hpm i p9 hlt hp
      have hg := hgets i p9 hlt hp
      obtain ⟨-, -, hnl'⟩ := pcs_fine hpm'
      k_steps
      rename Fr _ _ _ _ => F2; rename News _ _ _ _ => N2
      refine' ctr_use0 (pe_name w _ ?c0 _) ?c1 ?c2 ?c3 ?c4 ?c5 ?c6 ?c7 ?c8 ?c9 ?c10 ?_
      (case c0 => exact hpm')
      (case c1 => exact B)
      (case c2 => exact F2)
      (case c3 => exact X')
      (case c4 => exact N2)
      (case c5 => exact T')
      (case c6 => rfl)
      (case c7 => rfl)
      (case c8 => trivial)
      (case c9 => simp only [recursionLimit] at *; (first | lia | omega))
      (case c10 => simp only [cLine] at *; (first | lia | omega))
      intro v h' tk' F3 N3 st3 fr3 hv3
      subst hv3
      clear F2 N2
      (repeat' ((fail_if_success (with_reducible show wpAny _ _ (call (Value.builtin "getattr") _) _ _ _)); first | (k_unfold; (try dsimp only)) | (k_end; kc_close) | walk1 | (dsimp only; walk1) | (leave1; (try dsimp only))))
      refine hg _ _ _ _ _ ?gk ?_
      (case gk => exact fun b o e => F3.keep b o e)
      intro tk2
      k_steps
      rename Fr _ _ _ _ => F4; rename News _ _ _ _ => N4
      exact TEnd.next [] F4 N4 (fun _ h => nomatch h) ⟨hlt, rfl, _, _, gaMap_turn⟩
    · obtain rfl : pj = p9 := Option.some.inj (hj.symm.trans hp)
      rcases bad with ⟨rfl, rfl⟩ | ⟨hpj, rfl⟩
      · (repeat' ((fail_if_success (with_reducible show wpAny _ _ (call (Value.builtin "str.format") _) _ _ _)); first | (k_unfold; (try dsimp only)) | (k_end; kc_close) | walk1 | (dsimp only; walk1) | (leave1; (try dsimp only))))
        rename Fr _ _ _ _ => F2; rename News _ _ _ _ => N2
        have hx2 := F2.keep _ _ hx0
        have hd2 := F2.keep _ _ hd0
        refine' fmt_loc_st w ?c1 F2 ?c2 N2 ?c3 ?c4 ?c5 hx2 hd2 ?c6 ?c7 hrl hnl ?_
        (case c1 => exact B)
        (case c2 => exact X')
        (case c3 => exact T')
        (case c4 => rfl)
        (case c5 => rfl)
        (case c6 => (try dsimp only [arr]); (first | lia | omega))
        (case c7 => (try dsimp only [arr]); (first | lia | omega))
        clear F2 N2
        intro h' t' tk' F3 N3 ke3
        k_steps
        refine call_ae (hp := h') fun h2 e2 t2 hm => ?_
        have hm' := hm
        obtain ⟨u, v, he⟩ := hm'.there
        refine ⟨e2, _, _, rfl, he, rfl, rfl, rfl, ?_⟩
        refine leave_raiseA B (h := h') hm F3 (fun _ hp => (List.not_mem_nil hp).elim) (fun h3 RS up => ?_)
        exact hret h3 e2 t2 _ _ RS up ⟨_, rfl⟩
      · have hg := hmiss hpj
        obtain ⟨-, -, hnl'⟩ := pcs_fine hpj
        k_steps
        rename Fr _ _ _ _ => F2; rename News _ _ _ _ => N2
        refine' ctr_use0 (pe_name w _ ?c0 _) ?c1 ?c2 ?c3 ?c4 ?c5 ?c6 ?c7 ?c8 ?c9 ?c10 ?_
        (case c0 => exact hpj)
        (case c1 => exact B)
        (case c2 => exact F2)
        (case c3 => exact X')
        (case c4 => exact N2)
        (case c5 => exact T')
        (case c6 => rfl)
        (case c7 => rfl)
        (case c8 => trivial)
        (case c9 => simp only [recursionLimit] at *; (first | lia | omega))
        (case c10 => simp only [cLine] at *; (first | lia | omega))
        intro v h' tk' F3 N3 st3 fr3 hv3
        subst hv3
        clear F2 N2
        (repeat' ((fail_if_success (with_reducible show wpAny _ _ (call (Value.builtin "getattr") _) _ _ _)); first | (k_unfold; (try dsimp only)) | (k_end; kc_close) | walk1 | (dsimp only; walk1) | (leave1; (try dsimp only))))
        refine hg _ _ _ _ _ ?gk ?gh ?_
        (case gk => exact fun b o e => F3.keep b o e)
        (case gh => rfl)
        intro h9 tk9 e9 hx9
        refine' caught_ownE (KF := kk.heap_1 w.params) B F3 N3 hx9 XB TB ?d1 ?d2 ?d3 ?_
        (case d1 => k_is)
        (case d2 => kernel_rfl)
        (case d3 => decide)
        clear F3 N3 F'
        intro h7 g7 t7 u7 T7 kt7 F7 N7 B7 X7 P7 fresh7 ne7 he7
        k_steps
        refine Raise_fromNone rfl ?_
        (repeat' ((fail_if_success (with_reducible show wpAny _ _ (call (Value.builtin "str.format") _) _ _ _)); first | (k_unfold; (try dsimp only)) | (k_end; kc_close) | walk1 | (dsimp only; walk1) | (leave1; (try dsimp only))))
        rename Fr _ _ _ _ => F8
        have hx7 := F8.keep _ _ (kt7.other _ _ hx0 hxf)
        have hd7 := F8.keep _ _ (kt7.other _ _ hd0 hdf)
        refine' fmt_att_stH w (hv := some (.ref e9)) ?c1 F8 ?c2 N7 ?c3 ?c4 ?c5 hx7 hd7 ?c6 ?c7 hrl hnl ?_
        (case c1 => exact B7)
        (case c2 => exact X7)
        (case c3 => exact P7)
        (case c4 => rfl)
        (case c5 => rfl)
        (case c6 => (show dp + 1 + 3 < recursionLimit); (first | lia | omega))
        (case c7 => (show un + 3 + 32 < cLine); (first | lia | omega))
        clear F8 N7
        intro h' t' tk' F3 N3 ke3
        k_steps
        refine call_ae (hp := h') fun h2 e2 t2 hm => ?_
        obtain ⟨u, v, he⟩ := hm.there
        have he1 := ke3 _ _ he7
        have hne : e2 ≠ e9 := fun q => by
          have z := hm.new
          rw [q, he1] at z
          cases z
        have hte : t2 ≠ e2 := fun q => by
          have z := hm.args
          rw [q, he] at z
          simp at z
        refine ⟨e2, t2, u, v, rfl, hne, he, ⟨_, _, hm.keeps _ _ he1, rfl, rfl⟩, fun h3 hh3 ke4 => ?_⟩
        refine leave_raiseF B7 (h := h') ⟨fun b o hb => ke4 b o (fun q => ?_) (hm.keeps b o hb), hm.new, hm.newt, ⟨_, hh3, rfl, rfl⟩, ke4 _ _ hte hm.args⟩ F3 (fun _ hp => (List.not_mem_nil hp).elim) (fun h4 RS up => ?_)
        · have z := hm.new
          rw [← q, hb] at z
          cases z
        · exact hret h4 e2 t2 _ _ (raisedS_turn kt7 RS) (upTo_turn kt7 up) ⟨_, rfl⟩
  · rintro m₁ news₁ h tk ⟨hlj, -⟩
    exfalso
    have e1 := congrArg List.length e
    simp only [strValues, List.length_map] at hlj e1
    have := (List.getElem?_eq_some_iff.mp hj).1
    (first | lia | omega)
end Mine
end
section
open PySem PySem.W PySem.Spec PySem.Calls PyProof.Rows
namespace Mine
set_option maxRecDepth 100000
set_option maxHeartbeats 400000
theorem under_make {dp un : Nat} {gd : Option (List Code)} {fr : List Env} {C : Addr} {rest : List Value} :
    (arr dp un gd fr).under (.builtin "type.__call__" ⟨.ref C :: rest, []⟩) = arr (dp + 1) (un + 1) gd fr := by
  have h1 : (Code.builtin "type.__call__" ⟨.ref C :: rest, []⟩).weight = 1 := by
    simp [Code.weight, Code.isCreation, Code.isGuard, Code.isCaller, Code.frames, Code.isFrame, guardIds]
  have h2 : (Code.builtin "type.__call__" ⟨.ref C :: rest, []⟩).envs = [] := by simp [Code.envs, Code.isFrame]
  have h3 : (Code.builtin "type.__call__" ⟨.ref C :: rest, []⟩).guards = [] := by simp [Code.guards, Code.isGuard, guardIds]
  have h4 : (Code.builtin "type.__call__" ⟨.ref C :: rest, []⟩).cUnits = 1 := by simp [Code.cUnits, Code.frames, Code.isFrame]
  simp only [Around.under, h1, h2, h3, h4, pushEnvs, pushGuards]

theorem ctr_make {w : World} {K : Frag} {C fI : Addr} {vs : List Value} {Pre : Heap → Prop} {Post : Heap → Value → Heap → Prop} {d u : Nat}
    (hm : makesIn K C = true) (hi : findIn K (.ref C) "__init__" = some (some (.ref fI))) (hf : typeIn K (.ref fI) = some (.type "function"))
    (c : ∀ (h₀ : Heap), Pre h₀ → Ctr w K (.ref fI) (.ref (h₀.objs.size + 1) :: vs) [(h₀.objs.size + 1, instObj C h₀.objs.size), (h₀.objs.size, emptyDict)] (fun h => h = (h₀.push emptyDict).push (instObj C h₀.objs.size))
      (fun _ v h' => v = .none ∧ Post h₀ (.ref (h₀.objs.size + 1)) h') d u) :
    Ctr w K (.ref C) vs [] Pre Post (d + 1) (u + 1) := by
  rintro dp un gd fr ⟨h, g, dr, tk, os⟩ R ⟨⟨base, B⟩, X, ⟨p, loose, mean, mg, mb, T⟩⟩ hH hpre hdp hun hret
  have e0 : gOf h [] = h := rfl
  dsimp only at B X T hH hpre hret ⊢
  rw [e0] at B X T
  have k : ∀ b o, h.get? b = some o → ((h.push emptyDict).push (instObj C h.objs.size)).get? b = some o := fun b o e => Heap.get?_push_of_some _ (Heap.get?_push_of_some _ e)
  have hx : ((h.push emptyDict).push (instObj C h.objs.size)).get? (h.objs.size + 1) = some (instObj C h.objs.size) := by heap_get
  have hd : ((h.push emptyDict).push (instObj C h.objs.size)).get? h.objs.size = some emptyDict := by heap_get
  refine make_core (makes_of X hm) (looks_findIn X hi) (fun self => bind_fn X self hf) (.inl rfl) ?_
  rw [under_make]
  have hk : ∀ b o, h.get? b = some o → b ∉ [(h.objs.size + 1, instObj C h.objs.size), (h.objs.size, emptyDict)].map (·.1) := fun b o e q => by
    have hl := Heap.lt_size e
    simp only [List.map_cons, List.map_nil, List.mem_cons, List.not_mem_nil, or_false] at q
    rcases q with rfl | rfl
    · exact absurd hl (Nat.not_lt_of_le (Nat.le_succ _))
    · exact Nat.lt_irrefl _ hl
  have hg : ∀ b o, h.get? b = some o → (gOf ((h.push emptyDict).push (instObj C h.objs.size)) [(h.objs.size + 1, instObj C h.objs.size), (h.objs.size, emptyDict)]).get? b = some o := fun b o e => stay_g (hk b o e) (k b o e)
  refine c h hpre (dp + 1) (un + 1) gd fr ⟨(h.push emptyDict).push (instObj C h.objs.size), g, dr, tk, os⟩ _
    ⟨⟨base, ⟨B.stack, fun b o e => hg b o (B.stays b o e), B.frames.of_keeps fun b o e _ => ⟨o, hg b o e, rfl⟩⟩⟩, X.keeps hg, ⟨p, loose, mean, mg, mb, T.keeps hg⟩⟩
    (by intro q hq; simp only [List.mem_cons, List.not_mem_nil, or_false] at hq; rcases hq with rfl | rfl; exact hx; exact hd) rfl ?_ ?_
    (fun v h' tk' st hp => ⟨hp.1, hret _ h' tk' (fun b o _ e => st b o (hk b o e) (k b o e)) hp.2⟩)
  · show dp + 1 + d < recursionLimit
    (first | lia | omega)
  · show un + 1 + u < cLine
    (first | lia | omega)
end Mine
end
section
open PySem PySem.W PySem.Spec PySem.Calls PyProof.Rows
namespace Mine
set_option maxRecDepth 100000
set_option maxHeartbeats 400000
/-- a descriptor: its slots are sorted by name -/
abbrev descObj (d : Addr) (nm n rd dc : Value) : Obj := { cls := .ref 54, dict := some d, slots := #[some dc, some n, some nm, some rd] }
theorem init_desc (w : World) (x d : Addr) (hxd : @LT.lt Nat _ d x) (nm dc : Str) (t1 t2 t3 : Tok) (n : Int) (rd : Value) (hn : 0 ≤ n ∨ n = -2) :
    Ctr w (kk.heap_1 w.params) (.ref 50) [.ref x, .str nm t1, .int n t2, rd, .str dc t3] [(x, instObj 54 d), (d, emptyDict)] (fun _ => True)
      (fun _ v h' => v = .none ∧ h'.get? x = some (descObj d (.str nm t1) (.int n t2) rd (.str dc t3)) ∧ h'.get? d = some emptyDict) 3 30 := by
  have : Fill PySem.Challenge.rw_in0200_01 kk.heap_1 := by k_fill; trivial
  clear this
  refine ctr_enter [(Str.ofString "self", .ref x), (Str.ofString "name", .str nm t1), (Str.ofString "n", .int n t2), (Str.ofString "reader", rd), (Str.ofString "doc", .str dc t3)] (by k_is) (by k_is) (fun s X => BindsTo.of_eq rfl) (locs rfl) ?_
  intro dp un gd fr base g p loose mean mg mb s L' h₁ tk st B' X' T' hH hpre hdp hun hg F' N' hlt
  rcases hn with hn | rfl
  · k_steps
    rename Fr _ _ _ _ => F2; rename News _ _ _ _ => N2
    exact DoneC.next F2 ⟨rfl, N2.get (by k_mem), N2.get (by k_mem)⟩
  · k_steps
    rename Fr _ _ _ _ => F2; rename News _ _ _ _ => N2
    exact DoneC.next F2 ⟨rfl, N2.get (by k_mem), N2.get (by k_mem)⟩
theorem mk_desc (w : World) (nm dc : Str) (t1 t2 t3 : Tok) (n : Int) (rd : Value) (hn : 0 ≤ n ∨ n = -2) :
    Ctr w (kk.heap_1 w.params) (.ref 54) [.str nm t1, .int n t2, rd, .str dc t3] [] (fun _ => True)
      (fun h v h' => ∃ x d, v = .ref x ∧ @LE.le Nat _ h.objs.size d ∧ @LT.lt Nat _ d x ∧ h.get? x = none ∧ h.get? d = none ∧ h'.get? x = some (descObj d (.str nm t1) (.int n t2) rd (.str dc t3)) ∧ h'.get? d = some emptyDict) 4 31 := by
  have : Fill PySem.Challenge.rw_in0200_01 kk.heap_1 := by k_fill; trivial
  clear this
  refine ctr_make (fI := 50) (by k_is) (by k_is) (by k_is) fun h₀ _ => ?_
  have C := init_desc w (h₀.objs.size + 1) h₀.objs.size (Nat.lt_succ_self _) nm dc t1 t2 t3 n rd hn
  intro dp un gd fr s R S hH hpre hd hu ret
  exact C dp un gd fr s R S hH trivial hd hu fun v h' tk' st hp => ret v h' tk' st ⟨hp.1, _, _, rfl, Nat.le_refl _, Nat.lt_succ_self _, Heap.get?_none_of_le (Nat.le_succ _), Heap.get?_none_of_le (Nat.le_refl _), hp.2.1, hp.2.2⟩
end Mine
end
section
open PySem PySem.W PySem.Spec PySem.Calls PyProof.Rows
namespace Mine
set_option maxRecDepth 100000
set_option maxHeartbeats 400000
section
variable {prog : Program} {w : World} {A : Around} {E : Value → Shared → Prop} {h : Heap} {g : Array GenState} {d : Drawn} {t : Nat} {os : OsState}
theorem typeOf_int : typeOf (.type "int") = pure (.type "type") := kitMeta_of (by decide +kernel)
theorem class_get_type {R : Result → Shared → Prop} (hq : R (.ok (.ret (.type "type"))) ⟨h, g, d, t, os⟩) :
    codeAny (model prog w) A (.call (.builtin "getset_descriptor.__get__") ⟨[.builtin "object.__class__", .type "int", .type "type"], []⟩) R ⟨h, g, d, t, os⟩ := by
  have hT : (⟨h, g, d, t, os⟩ : Shared).TypeIs (.type "int") "type" := typeOf_int
  have hT5 : (⟨h, g, d, t, os⟩ : Shared).TypeIs (.builtin "object.__class__") "getset_descriptor" := F.typeOf_object_class
  have f8 : isSubtype (.type "type") (.type (".".intercalate ("object.__class__".cutAt '.').dropLast)) = pure true := by
    rw [F.owner_object_class, isSubtype_type]; kernel_rfl
  refine codeAny_call_builtin F.slot_gs_get.plain F.entry_gs_get (F.slot_gs_get.check _ _ _ _ _ _ _ _ hT5 (F.args_gs_get _ _ _) ?_)
  repeat (any_goals (first | assumption | wp_step))
  refine ⟨Code.quiet_builtin _ (by decide +kernel), codeAny_builtin F.entry_object_class ?_⟩
  repeat (any_goals (first | assumption | wp_step))
theorem fc_class : findCls [] (.type "int") (.type "type") "__class__" = some (.get (.builtin "getset_descriptor.__get__") (.builtin "object.__class__") (.type "int") (.type "type")) := by kernel_rfl
theorem oc_int : opaqueClassAbove (.type "int") = pure none := by kernel_rfl
theorem class_call_type {tk : Tok} {R : Result → Shared → Prop} (hq : R (.ok (.ret (.type "type"))) ⟨h, g, d, t, os⟩) :
    codeAny (model prog w) A (.call (.builtin "type.__getattribute__") ⟨[.type "int", .str "__class__" tk], []⟩) R ⟨h, g, d, t, os⟩ := by
  refine codeAny_call_builtin KF.slot_tga.plain KF.entry_tga (KF.slot_tga.check _ _ _ _ _ _ _ _ (show (⟨h, g, d, t, os⟩ : Shared).TypeIs (.type "int") "type" from typeOf_int) (KF.args_tga _ _) ?_)
  have X : Frag.In [] h := by intro a o e; cases e
  have hr : wpAny (model prog w) A.in1 (CFound.run (.get (.builtin "getset_descriptor.__get__") (.builtin "object.__class__") (.type "int") (.type "type"))) (fun fin s' => match fin with
      | .done f => R (.ok f) s'
      | .again c' => c'.quiet = true ∧ codeAny (model prog w) A c' R s') (fun e s' => R (.error e) s') ⟨h, g, d, t, os⟩ := by
    unfold CFound.run
    refine wpAny_bind (wpAny_holding (wpAny_call (class_get_type ?_)))
    exact wpAny_pure hq
  exact tga_run (s := ⟨h, g, d, t, os⟩) (name := "__class__") X (Looks.of_pure oc_int) (Looks.of_pure typeOf_int) fc_class hr
theorem class_by_type {tk : Tok} {Q : Value → Shared → Prop} (hq : Q (.type "type") ⟨h, g, d, t, os⟩) : wpAny (model prog w) A (getAttrBy (.type "int") (.str "__class__" tk) false) Q E ⟨h, g, d, t, os⟩ := by
  have hT : (⟨h, g, d, t, os⟩ : Shared).TypeIs (.type "int") "type" := typeOf_int
  have f2 := KF.slot_tga.lookup
  have f3 := KF.slot_tga.bind (.type "int")
  repeat (any_goals (first | assumption | wp_step))
  refine class_call_type ?_
  repeat (any_goals (first | assumption | wp_step))
theorem class_attr_type {Q : Option Value → Shared → Prop} (hq : Q (some (.type "type")) ⟨h, g, d, t + 1, os⟩) : wpAny (model prog w) A (getAttr? (.type "int") "__class__") Q E ⟨h, g, d, t, os⟩ := by
  unfold getAttr? getAttrBy?
  repeat (any_goals (first | assumption | with_reducible apply class_by_type | wp_step))
end
theorem kitx_inttype {K : Frag} : KitX K (.type "int") (.type "type") (fun _ => True) := kitx_of (fun _ _ _ => Looks.of_pure typeOf_int) (fun {_ _ _ _ _ s} _ k => by obtain ⟨h, g, d, t, os⟩ := s; exact class_attr_type k)
end Mine
end
section
open PySem PySem.W PySem.Spec PySem.Calls PyProof.Rows
namespace Mine
set_option maxRecDepth 100000
set_option maxHeartbeats 1000000
local macro_rules | `(tactic| walk_at "call builtin:isinstance") => `(tactic| (k_here; (with_reducible show wpAny _ _ (call _ [Value.type "int", _]) _ _ _); k_dflt (refine' kia_one kitx_inttype ?X trivial ?ee ?nb ?_; (case X => k_in); (case ee => kit_is); (case nb => kit_nb); k_whole; intro _)))
theorem init_st (w : World) (x d : Addr) (hxd : @LT.lt Nat _ d x) (nm dc : Str) (t1 t3 : Tok) :
    Ctr w (kk.heap_1 w.params) (.ref 96) [.ref x, .str nm t1, .type "int", .str dc t3] [(x, instObj 107 d), (d, emptyDict)] (fun _ => True)
      (fun _ v h' => v = .none ∧ h'.get? x = some (stObj d (.str nm t1) (.type "int") (.str dc t3)) ∧ h'.get? d = some emptyDict) 3 30 := by
  have : Fill PySem.Challenge.rw_in0200_01 kk.heap_1 := by k_fill; trivial
  clear this
  refine ctr_enter [(Str.ofString "self", .ref x), (Str.ofString "name", .str nm t1), (Str.ofString "obtype", .type "int"), (Str.ofString "doc", .str dc t3)] (by k_is) (by k_is) (fun s X => BindsTo.of_eq rfl) (locs rfl) ?_
  intro dp un gd fr base g p loose mean mg mb s L' h₁ tk st B' X' T' hH hpre hdp hun hg F' N' hlt
  k_steps
  rename Fr _ _ _ _ => F2; rename News _ _ _ _ => N2
  exact DoneC.next F2 ⟨rfl, N2.get (by k_mem), N2.get (by k_mem)⟩
theorem mk_st (w : World) (nm dc : Str) (t1 t3 : Tok) :
    Ctr w (kk.heap_1 w.params) (.ref 107) [.str nm t1, .type "int", .str dc t3] [] (fun _ => True)
      (fun h v h' => ∃ x d, v = .ref x ∧ @LE.le Nat _ h.objs.size d ∧ @LT.lt Nat _ d x ∧ h.get? x = none ∧ h.get? d = none ∧ h'.get? x = some (stObj d (.str nm t1) (.type "int") (.str dc t3)) ∧ h'.get? d = some emptyDict) 4 31 := by
  have : Fill PySem.Challenge.rw_in0200_01 kk.heap_1 := by k_fill; trivial
  clear this
  refine ctr_make (fI := 96) (by k_is) (by k_is) (by k_is) fun h₀ _ => ?_
  have C := init_st w (h₀.objs.size + 1) h₀.objs.size (Nat.lt_succ_self _) nm dc t1 t3
  intro dp un gd fr s R S hH hpre hd hu ret
  exact C dp un gd fr s R S hH trivial hd hu fun v h' tk' st hp => ret v h' tk' st ⟨hp.1, _, _, rfl, Nat.le_refl _, Nat.lt_succ_self _, Heap.get?_none_of_le (Nat.le_succ _), Heap.get?_none_of_le (Nat.le_refl _), hp.2.1, hp.2.2⟩
end Mine
end
section
open PySem PySem.W PySem.Spec PySem.Calls PyProof.Rows
namespace Mine
set_option maxRecDepth 100000
set_option maxHeartbeats 1000000
/-- A contract of a call that catches what was raised below: the slots of the frames around may differ behind it -/
def CtrT (w : World) (K : Frag) (f : Value) (vs : List Value) (Post : Heap → Value → Heap → Prop) (d u : Nat) : Prop :=
  ∀ (dp un : Nat) (gd : Option (List Code)) (fr : List Env) (base : Heap) (s : Shared) (R : Result → Shared → Prop) (p : Program) (loose : List Str) (mean : ExcName → Option Value) (mg mb : Str → Option Value),
    Below (arr dp un gd fr) base fr s.heap → K.In base → Top p loose mean mg mb base → KtsDicts (fr.filterMap (·.frame)) s.heap → dp + d < recursionLimit → un + u < cLine →
    (∀ (v : Value) (h' g' : Heap) (tk' : Nat), KtsTurn (fr.filterMap (·.frame)) s.heap g' → (∀ b o, g'.get? b = some o → h'.get? b = some o) → Post s.heap v h' → R (.ok (.ret v)) { s with heap := h', toks := tk' }) →
    codeAny (model PySem.Challenge.rw_in0200_01.row.prog w) (arr dp un gd fr) (.call f ⟨vs, []⟩) R s
/-- the end of such a body -/
def DoneT (fs : List Addr) (L : Addr) (s : Shared) (P : Value → Heap → Prop) (fl : Flow) (s' : Shared) : Prop :=
  ∃ h' g' tk' m', s' = { s with heap := h', toks := tk' } ∧ KtsTurn fs s.heap g' ∧ Fr g' L h' m' ∧ P (match fl with | .ret v => v | _ => .none) h'
theorem DoneT.intro {fs : List Addr} {h' g' : Heap} {L : Addr} {s : Shared} {P : Value → Heap → Prop} {v : Value} {tk' : Nat} {m' : Str → Option Value} (T : KtsTurn fs s.heap g') (F : Fr g' L h' m') (p : P v h') : DoneT fs L s P (.ret v) { s with heap := h', toks := tk' } :=
  ⟨h', g', tk', m', rfl, T, F, p⟩
theorem ctr_enterT {w : World} {K : Frag} {f : Addr} {vs : List Value} {Post : Heap → Value → Heap → Prop} {d u : Nat}
    {name qual : Str} {params : Arguments} {body : List Stmt} {scope : Scope} {dV kV doc pm cdv ct oc : Value} {an od : Option Addr} {osl : Array (Option Value)}
    (binds : List (Str × Value))
    (ho : K.lookup f = some ⟨oc, od, .func (fnOf name qual params body scope dV kV doc pm an cdv ct), osl⟩) (hcd : codeIn K cdv qual = true) 
    (hbind : ∀ s : Shared, K.In s.heap → BindsTo s (fnOf name qual params body scope dV kV doc pm an cdv ct) ⟨vs, []⟩ binds) (hloc : ∀ y ∈ binds, scope.names.lookup y.1 = some .local)
    (h : ∀ (dp un : Nat) (gd : Option (List Code)) (fr : List Env) (base : Heap) (p : Program) (loose : List Str) (mean : ExcName → Option Value) (mg mb : Str → Option Value) (s : Shared) (L' : Addr) (h₁ : Heap) (tk : Nat),
      Below (arr dp un gd fr) base fr s.heap → K.In base → K.In s.heap → Top p loose mean mg mb base → Top p loose mean mg mb s.heap → KtsDicts (fr.filterMap (·.frame)) s.heap → dp + d < recursionLimit → un + u < cLine →
      Fr s.heap L' h₁ (fun y => binds.reverse.lookup y) → News s.heap L' h₁ [] →
      wpAny (model PySem.Challenge.rw_in0200_01.row.prog w) ((arr dp un gd fr).deeper (envOf qual scope L' f cdv)) (execs body (envOf qual scope L' f cdv))
        (DoneT (fr.filterMap (·.frame)) L' s (Post s.heap)) (fun _ _ => False) { s with heap := h₁, toks := tk })
    (hcell : ∀ x ∈ scope.names, x.2 ≠ .cell := by decide) (hco : scope.isCoroutine = false := by rfl) (hgen : scope.isGenerator = false := by rfl) (hk : scope.kind = .function := by rfl) :
    CtrT w K (.ref f) vs Post d u := by
  intro dp un gd fr base s R p loose mean mg mb B XB TB D hdp hun hret
  have Xs : K.In s.heap := XB.keeps B.stays
  have Ts := TB.keeps B.stays
  have hroom : (arr dp un gd fr).depth < recursionLimit := Nat.lt_of_le_of_lt (Nat.le_add_right _ _) hdp
  refine codeAny_call_def (fd := fnOf name qual params body scope dV kV doc pm an cdv ct) (body := body) (binds := binds) hroom (Xs _ _ ho) rfl Ts.nolimit (codeRec_of Xs hcd) rfl (hbind s Xs) hcell hloc (fun h₁ hns hk₁ => ?_) hco hgen hk
  refine wpAny_mono (h dp un gd fr base p loose mean mg mb s s.heap.objs.size h₁ _ B XB Xs TB Ts D hdp hun ⟨hns, hk₁, Nat.le_refl _⟩ (fun _ hp => (List.not_mem_nil hp).elim)) (fun fl s' hl => ?_) fun _ _ x => x.elim
  obtain ⟨h', g', tk', m', rfl, T', F', hp⟩ := hl
  exact hret _ h' g' tk' T' F'.keep hp
/-- what was raised, as the frame that catches it sees it: with the frame's own new objects -/
theorem raised_own {base g G h : Heap} {env : Env} {outer : List Env} {L e t : Addr} {m : Str → Option Value} {cls : Value} {vs : List Value} {own : Led} {A₀ : Around} (K : Below A₀ base outer g) (hf : env.frame = some L)
    (F : Fr g L G m) (N : News g L G own) (R : RaisedS base G (env :: outer) e cls t vs [] h) : RaisedS base (gOf G own) (env :: outer) e cls t vs own h ∧ Fr g L (gOf G own) m := by
  have off : ∀ q ∈ own, q.1 ∉ (env :: outer).filterMap (·.frame) := fun q hq hm => by
    obtain ⟨en, he, hf'⟩ := List.mem_filterMap.mp hm
    rcases List.mem_cons.mp he with rfl | he
    · rw [hf] at hf'
      exact (N q hq).2.1 (Option.some.inj hf').symm
    · obtain ⟨o, ho, _⟩ := (K.frames.mem (List.mem_filterMap.mpr ⟨en, he, hf'⟩)).2
      rw [(N q hq).2.2] at ho; cases ho
  have nL : L ∉ own.map (·.1) := fun q => by
    obtain ⟨p, hp, e⟩ := List.mem_map.mp q
    exact (N p hp).2.1 e
  obtain ⟨⟨B, a, b, c, dd, ee⟩, tt⟩ := R
  refine ⟨⟨⟨B, a, fun x o q n => b x o (of_hideAll _ q) n, fun q hq => ⟨b _ _ (N q hq).1 (off q hq), hideAll_none _ (List.mem_map_of_mem hq), fresh_of_stays K.stays (N q hq).2.2⟩, dd, ee⟩, tt⟩, ?_⟩
  obtain ⟨oL, es, ep, hL, r⟩ := F.ns
  refine ⟨⟨oL, es, ep, hideAll_get _ hL nL, r⟩, fun b o e => hideAll_get _ (F.keep b o e) fun q => ?_, F.above⟩
  obtain ⟨p, hp, rfl⟩ := List.mem_map.mp q
  have := (N p hp).2.2
  rw [e] at this; cases this
end Mine
end
section
open PySem PySem.W PySem.Spec PySem.Calls PyProof.Rows
namespace Mine
set_option maxRecDepth 100000
set_option maxHeartbeats 400000
theorem str_ext {x y : Str} (h : x.cps.toList = y.cps.toList) : x = y := Str.ext' (Array.ext' h)
theorem cut_uniq (c : Nat) : ∀ (a b s t : List Nat), c ∉ a → c ∉ b → a ++ c :: s = b ++ c :: t → a = b ∧ s = t
  | [], [], _, _, _, _, e => ⟨rfl, by simpa using e⟩
  | [], y :: b, _, _, _, hb, e => by
    simp only [List.nil_append, List.cons_append, List.cons.injEq] at e
    exact absurd (e.1 ▸ List.mem_cons_self) hb
  | x :: a, [], _, _, ha, _, e => by
    simp only [List.nil_append, List.cons_append, List.cons.injEq] at e
    exact absurd (e.1 ▸ List.mem_cons_self) ha
  | x :: a, y :: b, s, t, ha, hb, e => by
    simp only [List.cons_append, List.cons.injEq] at e
    obtain ⟨e1, e2⟩ := cut_uniq c a b s t (fun h => ha (List.mem_cons_of_mem _ h)) (fun h => hb (List.mem_cons_of_mem _ h)) e.2
    exact ⟨by rw [e.1, e1], e2⟩
theorem join_two (c : Nat) (x y : Str) (r : List Str) : (Str.join ⟨#[c]⟩ (x :: y :: r)).cps.toList = x.cps.toList ++ c :: (Str.join ⟨#[c]⟩ (y :: r)).cps.toList := by
  show (x.cps ++ #[c] ++ (Str.join ⟨#[c]⟩ (y :: r)).cps).toList = _
  simp
theorem join_uniq (c : Nat) : ∀ (l m : List Str), l ≠ [] → m ≠ [] → (∀ p ∈ l, c ∉ p.cps.toList) → (∀ p ∈ m, c ∉ p.cps.toList) → (Str.join ⟨#[c]⟩ l).cps.toList = (Str.join ⟨#[c]⟩ m).cps.toList → l = m
  | [], _, h, _, _, _, _ => absurd rfl h
  | _, [], _, h, _, _, _ => absurd rfl h
  | [x], [y], _, _, _, _, e => by
    have : x = y := str_ext e
    rw [this]
  | [x], y :: z :: r, _, _, h, _, e => by
    rw [join_two] at e
    refine absurd ?_ (h x List.mem_cons_self)
    show c ∈ (Str.join ⟨#[c]⟩ [x]).cps.toList
    rw [e]
    simp
  | x :: w :: q, [y], _, _, _, h, e => by
    rw [join_two] at e
    refine absurd ?_ (h y List.mem_cons_self)
    show c ∈ (Str.join ⟨#[c]⟩ [y]).cps.toList
    rw [← e]
    simp
  | x :: w :: q, y :: z :: r, _, _, h, h', e => by
    rw [join_two, join_two] at e
    obtain ⟨e1, e2⟩ := cut_uniq c _ _ _ _ (h x List.mem_cons_self) (h' y List.mem_cons_self) e
    have := join_uniq c (w :: q) (z :: r) (List.cons_ne_nil _ _) (List.cons_ne_nil _ _) (fun p hp => h p (List.mem_cons_of_mem _ hp)) (fun p hp => h' p (List.mem_cons_of_mem _ hp)) e2
    rw [this, str_ext e1]
/-- the pieces of a path -/
abbrev pcs7 : List Str := [Str.ofString "name", Str.ofString "doc", Str.ofString "obtype", Str.ofString "<locals>", Str.ofString "reader", Str.ofString "", Str.ofString "n"]
theorem pcs7_plain : pcs7.all (fun p => p.cps.toList.all (fun c => c != 46 && c != 39 && decide (Builtin.Str.reprChar 39 c = [c])) && decide (p.length ≤ 8)) = true := by decide +kernel
theorem pcs7_c {p : Str} (hp : p ∈ pcs7) : (∀ c ∈ p.cps.toList, c ≠ 46 ∧ c ≠ 39 ∧ Builtin.Str.reprChar 39 c = [c]) ∧ p.length ≤ 8 := by
  have := List.all_eq_true.mp pcs7_plain p hp
  simp only [Bool.and_eq_true, decide_eq_true_eq] at this
  refine ⟨fun c hc => ?_, this.2⟩
  have h := List.all_eq_true.mp this.1 c hc
  simp only [Bool.and_eq_true, decide_eq_true_eq, bne_iff_ne] at h
  exact ⟨h.1.1, h.1.2, h.2⟩
theorem dot_eq : Str.ofString "." = ⟨#[46]⟩ := by decide +kernel
theorem quote_eq : Str.ofString "'" = ⟨#[39]⟩ := by decide +kernel
theorem join_eq (ps : List Str) : Txt.join (Str.ofString ".") ps = Str.join ⟨#[46]⟩ ps := by rw [dot_eq]; exact StrLaws.glued_eq_join _ _
theorem split_join {ps : List Str} (hne : ps ≠ []) (hp : ∀ p ∈ ps, p ∈ pcs7) : Txt.split (Txt.join (Str.ofString ".") ps) (Str.ofString ".") = ps := by
  rw [join_eq, dot_eq]
  have hl : Txt.split (Str.join ⟨#[46]⟩ ps) ⟨#[46]⟩ ≠ [] := fun e => by
    have := split_pos (Str.join ⟨#[46]⟩ ps) ⟨#[46]⟩
    rw [e] at this
    exact absurd this (by decide)
  refine join_uniq 46 _ _ hl hne (StrLaws.split_free _ _) (fun p h c => ((pcs7_c (hp p h)).1 _ c).1 rfl) ?_
  rw [StrLaws.join_split]
theorem join_mem : ∀ (ps : List Str) (c : Nat), c ∈ (Str.join ⟨#[46]⟩ ps).cps.toList → c = 46 ∨ ∃ p ∈ ps, c ∈ p.cps.toList
  | [], c, h => by simp [Str.join, Str.empty] at h
  | [x], c, h => .inr ⟨x, List.mem_cons_self, h⟩
  | x :: y :: r, c, h => by
    rw [join_two] at h
    rcases List.mem_append.mp h with h | h
    · exact .inr ⟨x, List.mem_cons_self, h⟩
    · rcases List.mem_cons.mp h with h | h
      · exact .inl h
      · rcases join_mem (y :: r) c h with h | ⟨p, hp, h⟩
        · exact .inl h
        · exact .inr ⟨p, List.mem_cons_of_mem _ hp, h⟩
theorem repr_fold (q : Nat) : ∀ (l : List Nat) (acc : Array Nat), (∀ c ∈ l, Builtin.Str.reprChar q c = [c]) → l.foldl (fun out c => out ++ (Builtin.Str.reprChar q c).toArray) acc = acc ++ l.toArray
  | [], acc, _ => by simp
  | c :: r, acc, h => by
    rw [List.foldl_cons, h c List.mem_cons_self, repr_fold q r _ fun d hd => h d (List.mem_cons_of_mem _ hd)]
    simp
theorem repr_plain {x : Str} (h : ∀ c ∈ x.cps.toList, c ≠ 39 ∧ Builtin.Str.reprChar 39 c = [c]) : reprText x = Str.ofString "'" ++ x ++ Str.ofString "'" := by
  have hq : reprQuote x = 39 := by
    unfold reprQuote
    rw [if_neg]
    intro hc
    simp only [Bool.and_eq_true, Array.contains_iff_mem] at hc
    have := Array.mem_toList_iff.mpr hc.1
    exact (h _ this).1 rfl
  unfold reprText
  rw [hq, ← Array.foldl_toList, repr_fold 39 _ _ fun c hc => (h c hc).2, quote_eq]
  apply Str.ext'
  simp [Str.cps_append]
theorem path_plain {ps : List Str} (hp : ∀ p ∈ ps, p ∈ pcs7) : reprText (Txt.join (Str.ofString ".") ps) = Str.ofString "'" ++ Txt.join (Str.ofString ".") ps ++ Str.ofString "'" := by
  refine repr_plain fun c hc => ?_
  rw [join_eq] at hc
  rcases join_mem ps c hc with rfl | ⟨p, h, hc⟩
  · exact ⟨by decide, by decide +kernel⟩
  · exact ((pcs7_c (hp p h)).1 c hc).2
theorem path_len {ps : List Str} (hl : ps.length ≤ 3) (hp : ∀ p ∈ ps, p ∈ pcs7) : (Txt.join (Str.ofString ".") ps).length ≤ 40 := by
  rw [join_eq]
  refine Nat.le_trans (StrLaws.join_length_le _ _) ?_
  have e : (ps.map (·.length)).sum ≤ ps.length * 8 := by
    clear hl
    induction ps with
    | nil => exact Nat.le_refl _
    | cons x r ih =>
      have := ih fun p h => hp p (List.mem_cons_of_mem _ h)
      have h8 := (pcs7_c (hp x List.mem_cons_self)).2
      simp only [List.map_cons, List.sum_cons, List.length_cons]
      (first | lia | omega)
  have e1 : (⟨#[46]⟩ : Str).length = 1 := rfl
  rw [e1]
  (first | lia | omega)
end Mine
end
section
open PySem PySem.W PySem.Spec PySem.Calls PyProof.Rows
namespace Mine
set_option maxRecDepth 100000
set_option maxHeartbeats 4000000
section
variable {prog : Program} {w : World} {A : Around} {n : Int} {t u : Tok} {Q E : Value → Shared → Prop} {s : Shared}
theorem pct_a (h0 : 0 ≤ n) (h1 : n < 10 ^ 10) (h : ∀ t' k, Q (.str (Str.ofString "a" ++ Str.ofString (toString n)) t') { s with toks := k }) :
    wpAny (model prog w) A (binaryOp .Mod (.str (Str.ofString "a%d") t) (.int n u)) Q E s := by
  refine' KPc.mod_int (T := fun i => Str.ofString "a" ++ Str.ofString (toString i)) ?kpcF h0 h1 ?kpcm ?_
  (case kpcF => kpc_eq)
  (case kpcm => k_dflt kpc_run)
  exact h
theorem pct_made (h0 : 0 ≤ n) (h1 : n < 10 ^ 10) (h : ∀ t' k, Q (.str (Str.ofString "made of " ++ Str.ofString (toString n)) t') { s with toks := k }) :
    wpAny (model prog w) A (binaryOp .Mod (.str (Str.ofString "made of %d") t) (.int n u)) Q E s := by
  refine' KPc.mod_int (T := fun i => Str.ofString "made of " ++ Str.ofString (toString i)) ?kpcF h0 h1 ?kpcm ?_
  (case kpcF => kpc_eq)
  (case kpcm => k_dflt kpc_run)
  exact h
theorem pct_kind (h0 : 0 ≤ n) (h1 : n < 10 ^ 10) (h : ∀ t' k, Q (.str (Str.ofString "kind " ++ Str.ofString (toString n)) t') { s with toks := k }) :
    wpAny (model prog w) A (binaryOp .Mod (.str (Str.ofString "kind %d") t) (.int n u)) Q E s := by
  refine' KPc.mod_int (T := fun i => Str.ofString "kind " ++ Str.ofString (toString i)) ?kpcF h0 h1 ?kpcm ?_
  (case kpcF => kpc_eq)
  (case kpcm => k_dflt kpc_run)
  exact h
end
theorem pct_len {pre : Str} {n : Int} (h0 : 0 ≤ n) (h1 : n < 10 ^ 10) : (pre ++ Str.ofString (toString n)).length ≤ pre.length + 11 := by
  have h2 := int_text_length_le10 (a := n) (k := 10) (by decide) (by (first | lia | omega))
  rw [Str.length_append, PySem.ofString_length]
  (first | lia | omega)
end Mine
end
section
open PySem PySem.W PySem.Spec PySem.Calls PyProof.Rows
namespace Mine
set_option maxRecDepth 100000
set_option maxHeartbeats 2000000
theorem desc_use {w : World} {nm dc : Str} {t1 t2 t3 : Tok} {n : Int} {rd : Value} {A₀ : Around} {base h₀ : Heap} {outer : List Env} {env : Env} {L : Addr} {m : Str → Option Value} {s : Shared} {news : Led} {dp un : Nat} {gd : Option (List Code)}
    {p : Program} {loose : List Str} {mean : ExcName → Option Value} {mg mb : Str → Option Value} {Q E : Value → Shared → Prop} (hn : 0 ≤ n ∨ n = -2)
    (B : Below A₀ base outer h₀) (F : Fr h₀ L s.heap m) (X : (kk.heap_1 w.params).In h₀) (N : News h₀ L s.heap news) (T : Top p loose mean mg mb h₀) (hf : env.frame = some L) (hke : env.scope.kind = .function)
    (hd : dp + 4 < recursionLimit) (hu : un + 31 < cLine)
    (ret : ∀ (x d : Addr) (h' : Heap) (tk' : Nat), Fr h₀ L h' m → News h₀ L h' ((x, descObj d (.str nm t1) (.int n t2) rd (.str dc t3)) :: (d, emptyDict) :: news) → (∀ p ∈ news, p.1 < d) → d < x → Q (.ref x) { s with heap := h', toks := tk' }) :
    wpAny (model PySem.Challenge.rw_in0200_01.row.prog w) (arr dp un gd (env :: outer)) (call (.ref 54) [.str nm t1, .int n t2, rd, .str dc t3]) Q E s := by
  refine ctr_use0 (mk_desc w nm dc t1 t2 t3 n rd hn) B F X N T hf hke trivial hd hu fun v h' tk' F' N' st fr hp => ?_
  obtain ⟨x, d, rfl, l1, l2, n1, n2, o1, o2⟩ := hp
  exact ret x d h' tk' F' (News.cons (News.cons N' o2 (fr _ _ o2 n2).1 (fr _ _ o2 n2).2) o1 (fr _ _ o1 n1).1 (fr _ _ o1 n1).2) (fun p hp => Nat.lt_of_lt_of_le (Heap.lt_size (N p hp).1) l1) l2
local macro_rules | `(tactic| walk_at "call ref") => `(tactic| (k_here; (with_reducible show wpAny _ _ (call (Value.ref 54) [Value.str _ _, Value.int _ _, _, Value.str _ _]) _ _ _); (with_unfolding_all refine' desc_use ?c0 ?c1 ?c2 ?c3 ?c4 ?c5 ?c6 ?c7 ?c9 ?c10 ?_); (case c0 => first | (left; decide) | (right; rfl) | (left; assumption)); (case c1 => k_asm); (case c2 => k_asm); (case c3 => k_asm); (case c4 => k_asm); (case c5 => k_asm); (case c6 => exact rfl); (case c7 => exact rfl); (case c9 => ((try dsimp only [arr]); (first | lia | omega))); (case c10 => ((try dsimp only [arr]); (first | lia | omega))); intro x' d' h' tk' F' N' l1 l2; (try k_lt l1); (try k_lt2 l2)))
/-- the elders of the shelf -/
def eldersOf (ns : List Int) : List Int := [-1, -1, -1] ++ ns.mapIdx fun i x => x.fmod (3 + (i : Int))
theorem eldersOf_length (ns : List Int) : (eldersOf ns).length = 3 + ns.length := by simp [eldersOf]; (first | lia | omega)
def rootFn : Nat → Addr
  | 0 => 67
  | 1 => 81
  | _ => 74
/-- the reader of descriptor k -/
def rdOf (D : List Addr) (es : List Int) (k : Nat) : Value := if 0 ≤ es.getD k 0 then .ref (D.getD (es.getD k 0).toNat 0) else .ref (rootFn k)
abbrev tup4 (a b c d : Value) : Obj := { cls := .type "tuple", data := .seq #[a, b, c, d] }
def Entry (D T : List Addr) (es : List Int) (led : Led) (k : Nat) : Prop :=
  ∃ (dd : Addr) (nm dc : Str) (z : Int) (t1 t2 t3 t1' t2' t3' : Tok), (D.getD k 0, descObj dd (.str nm t1) (.int z t2) (rdOf D es k) (.str dc t3)) ∈ led ∧ (dd, emptyDict) ∈ led ∧
    (T.getD k 0, tup4 (.str nm t1') (.int z t2') (.str dc t3') (rdOf D es k)) ∈ led
structure ShelfLed (D T : List Addr) (es : List Int) (led : Led) : Prop where
  lenD : D.length = es.length
  lenT : T.length = es.length
  at_ : ∀ k < es.length, Entry D T es led k
  cls : ∀ p ∈ led, p.2.cls ≠ .type "list" ∧ p.2.cls ≠ .type "list_iterator" ∧ p.2.cls ≠ .type "range_iterator"
abbrev refs (D : List Addr) : Array Value := (D.map Value.ref).toArray
abbrev shMap (na : Addr) (sh to el : Addr) (u1 u2 : Option Value) : Str → Option Value := fun y =>
  if y = Str.ofString "k" then u1 else if y = Str.ofString "x" then u2 else if y = Str.ofString "elder" then some (.ref el) else if y = Str.ofString "told" then some (.ref to) else if y = Str.ofString "shelf" then some (.ref sh) else
  List.lookup y (List.reverse [(Str.ofString "numbers", Value.ref na)])
local macro_rules | `(tactic| k_all) => `(tactic| assumption)
theorem off_led {h₀ h : Heap} {L l : Addr} {lo : Obj} {news led : Led} (N : News h₀ L h news) (hl : (l, lo) ∈ news) (sub : ∀ p ∈ led, p ∈ news) (hc : lo.cls = .type "list") (cls : ∀ p ∈ led, p.2.cls ≠ .type "list") : ∀ p ∈ led, p.1 ≠ l := fun p hp e => by
  have h1 := (N p (sub p hp)).1
  have h2 := (N _ hl).1
  rw [e, h2] at h1
  exact cls p hp (by rw [← Option.some.inj h1]; exact hc)
local macro_rules | `(tactic| walk_at "binaryOp Mod str int") => `(tactic| ((with_reducible show wpAny _ _ (binaryOp Operator.Mod (Value.str _ _) (Value.int _ _)) _ _ _); (first | refine' pct_a ?h0 ?h1 ?_ | refine' pct_made ?h0 ?h1 ?_); (case h0 => (first | lia | omega)); (case h1 => (first | lia | omega)); intro t' k'))
def ShJ (ns : List Int) (na : Addr) (i : Nat) (m : Str → Option Value) (news : Led) : Prop :=
  ∃ (D T : List Addr) (E : List Value) (led : Led) (sh to el : Addr) (c1 c2 c3 : Nat) (u1 u2 : Option Value), ShelfLed D T (eldersOf (ns.take i)) led ∧ IntsAre E (eldersOf (ns.take i)) ∧ sh ≠ to ∧ sh ≠ el ∧ to ≠ el ∧
    news = (sh, W.listOf (refs D) c1) :: (to, W.listOf (refs T) c2) :: (el, W.listOf E.toArray c3) :: led ∧ m = shMap na sh to el u1 u2
theorem ints_snoc {vs : List Value} {ns : List Int} {n : Int} {t : Tok} (h : IntsAre vs ns) : IntsAre (vs ++ [.int n t]) (ns ++ [n]) := by
  induction h with
  | nil => exact .cons n t .nil
  | cons a b _ ih => exact .cons a b ih
theorem eldersOf_snoc (ns : List Int) (x : Int) : eldersOf (ns ++ [x]) = eldersOf ns ++ [x.fmod (3 + (ns.length : Int))] := by
  simp [eldersOf, List.mapIdx_append]
theorem getD_snoc_lt {α : Type} {l : List α} {a d : α} {k : Nat} (h : k < l.length) : (l ++ [a]).getD k d = l.getD k d := by
  simp [List.getD_eq_getElem?_getD, List.getElem?_append_left h]
theorem getD_snoc_len {α : Type} {l : List α} {a d : α} : (l ++ [a]).getD l.length d = a := by
  simp [List.getD_eq_getElem?_getD]
/-- an elder is younger than the descriptor -/
def EldersOk (es : List Int) : Prop := ∀ j < es.length, es.getD j 0 < j
theorem eldersOf_at (ns : List Int) (k : Nat) : (eldersOf ns).getD (k + 3) 0 = ((ns[k]?).map fun x => x.fmod (3 + (k : Int))).getD 0 := by
  simp [eldersOf, List.getD_eq_getElem?_getD, List.getElem?_mapIdx]
theorem eldersOk (ns : List Int) : EldersOk (eldersOf ns) := by
  intro j hj
  rw [eldersOf_length] at hj
  match j, hj with
  | 0, _ => exact (by decide : (-1 : Int) < 0)
  | 1, _ => exact (by decide : (-1 : Int) < 1)
  | 2, _ => exact (by decide : (-1 : Int) < 2)
  | k + 3, hj =>
    have hk : k < ns.length := by (first | lia | omega)
    rw [eldersOf_at, List.getElem?_eq_getElem hk]
    have := Int.fmod_lt_of_pos ns[k] (show (0 : Int) < 3 + (k : Int) by (first | lia | omega))
    show ns[k].fmod (3 + (k : Int)) < _
    (first | lia | omega)
theorem rdOf_snoc {D : List Addr} {es : List Int} {x : Addr} {e : Int} {k : Nat} (hl : D.length = es.length) (ho : EldersOk es) (h : k < es.length) : rdOf (D ++ [x]) (es ++ [e]) k = rdOf D es k := by
  unfold rdOf
  rw [getD_snoc_lt h]
  split
  · rename_i q
    have := ho k h
    rw [getD_snoc_lt (by (first | lia | omega))]
  · rfl
theorem shelf_more {ns : List Int} {D T : List Addr} {es : List Int} {led : Led} (S : ShelfLed D T es led) (ho : EldersOk es) {x y dd : Addr} {e : Int} (h0 : 0 ≤ e) (h1 : e < D.length) {nm dc : Str} {z : Int} {t1 t2 t3 t1' t2' t3' : Tok} :
    ShelfLed (D ++ [x]) (T ++ [y]) (es ++ [e]) ((x, descObj dd (.str nm t1) (.int z t2) (.ref (D.getD e.toNat 0)) (.str dc t3)) :: (dd, emptyDict) :: (y, tup4 (.str nm t1') (.int z t2') (.str dc t3') (.ref (D.getD e.toNat 0))) :: led) := by
  refine ⟨by simp [S.lenD], by simp [S.lenT], fun k hk => ?_, fun q hq => ?_⟩
  · by_cases h : k < es.length
    · obtain ⟨d, n, c, z', a1, a2, a3, a1', a2', a3', m1, m2, m3⟩ := S.at_ k h
      refine ⟨d, n, c, z', a1, a2, a3, a1', a2', a3', ?_, .tail _ (.tail _ (.tail _ m2)), ?_⟩
      · rw [getD_snoc_lt (by rw [S.lenD]; exact h), rdOf_snoc S.lenD ho h]
        exact .tail _ (.tail _ (.tail _ m1))
      · rw [getD_snoc_lt (by rw [S.lenT]; exact h), rdOf_snoc S.lenD ho h]
        exact .tail _ (.tail _ (.tail _ m3))
    · have hk' : k = es.length := by simp at hk; (first | lia | omega)
      subst hk'
      have hr : rdOf (D ++ [x]) (es ++ [e]) es.length = .ref (D.getD e.toNat 0) := by
        unfold rdOf
        rw [getD_snoc_len, if_pos h0, getD_snoc_lt (by (first | lia | omega))]
      refine ⟨dd, nm, dc, z, t1, t2, t3, t1', t2', t3', ?_, .tail _ (.head _), ?_⟩
      · rw [hr, ← S.lenD, getD_snoc_len]
        exact .head _
      · rw [hr, ← S.lenT, getD_snoc_len]
        exact .tail _ (.tail _ (.head _))
  · rcases List.mem_cons.mp hq with rfl | hq
    · exact ⟨by k_cls, by k_cls, by k_cls⟩
    · rcases List.mem_cons.mp hq with rfl | hq
      · exact ⟨by k_cls, by k_cls, by k_cls⟩
      · rcases List.mem_cons.mp hq with rfl | hq
        · exact ⟨by k_cls, by k_cls, by k_cls⟩
        · exact S.cls q hq
theorem shMap_turn {na sh to el : Addr} {u1 u2 v1 v2 : Option Value} : (fun y => if y = Str.ofString "k" then v1 else if y = Str.ofString "x" then v2 else shMap na sh to el u1 u2 y) = shMap na sh to el v1 v2 := by
  funext y
  unfold shMap
  by_cases h1 : y = Str.ofString "k"
  · simp only [if_pos h1]
  · simp only [if_neg h1]
    by_cases h2 : y = Str.ofString "x"
    · simp only [if_pos h2]
    · simp only [if_neg h2]
theorem shMap_start {na sh to el : Addr} : (fun y => if y = Str.ofString "elder" then some (.ref el) else if y = Str.ofString "told" then some (.ref to) else if y = Str.ofString "shelf" then some (.ref sh) else List.lookup y (List.reverse [(Str.ofString "numbers", Value.ref na)])) = shMap na sh to el none none := by
  funext y
  unfold shMap
  by_cases h1 : y = Str.ofString "k"
  · subst h1; rfl
  · simp only [if_neg h1]
    by_cases h2 : y = Str.ofString "x"
    · subst h2; rfl
    · simp only [if_neg h2]
theorem shelf_turn_end {ns : List Int} {na : Addr} {i : Nat} {D T : List Addr} {E : List Value} {led : Led} {sh to el : Addr} {c1 c2 c3 : Nat} {u1 u2 v1 v2 : Option Value} {x K : Int} {x' d' y I : Addr} {io : Obj} {nm dc : Str} {z : Int} {t1 t2 t3 t1' t2' t3' tk : Tok} {g h' : Heap} {L : Addr} {s₁ : Shared} {tk' : Nat} {Q : Flow → Shared → Prop}
    (S : ShelfLed D T (eldersOf (ns.take i)) led) (hE : IntsAre E (eldersOf (ns.take i))) (hx : ns[i]? = some x) (hK : K = 3 + (i : Int)) (ne1 : sh ≠ to) (ne2 : sh ≠ el) (ne3 : to ≠ el)
    (F : Fr g L h' (fun y => if y = Str.ofString "k" then v1 else if y = Str.ofString "x" then v2 else shMap na sh to el u1 u2 y))
    (N : News g L h' ((x', descObj d' (.str nm t1) (.int z t2) (.ref (D.getD (x.fmod K).toNat 0)) (.str dc t3)) :: (d', emptyDict) :: (y, tup4 (.str nm t1') (.int z t2') (.str dc t3') (.ref (D.getD (x.fmod K).toNat 0))) :: (I, io) ::
      (sh, W.listOf (Array.push (refs D) (.ref x')) (c1 + 1)) :: (to, W.listOf (List.toArray (List.map Value.ref T ++ [.ref y])) (c2 + 1)) :: (el, W.listOf (Array.push E.toArray (.int (x.fmod K) tk)) (c3 + 1)) :: led)) :
    TEnd g L [(I, io)] (.type "list_iterator") (ShJ ns na (i + 1)) s₁ Q .next { s₁ with heap := h', toks := tk' } := by
  have hi : i < ns.length := (List.getElem?_eq_some_iff.mp hx).1
  have htake : ns.take (i + 1) = ns.take i ++ [x] := by rw [List.take_add_one, hx]; rfl
  have hli : (ns.take i).length = i := by rw [List.length_take]; (first | lia | omega)
  have hDl : D.length = 3 + i := by rw [S.lenD, eldersOf_length, hli]
  have he : eldersOf (ns.take (i + 1)) = eldersOf (ns.take i) ++ [x.fmod K] := by rw [htake, eldersOf_snoc, hli, hK]
  have h0 : 0 ≤ x.fmod K := Int.fmod_nonneg_of_pos x (by (first | lia | omega))
  have h1 : x.fmod K < K := Int.fmod_lt_of_pos x (by (first | lia | omega))
  rw [shMap_turn] at F
  refine TEnd.next ((sh, W.listOf (refs (D ++ [x'])) (c1 + 1)) :: (to, W.listOf (refs (T ++ [y])) (c2 + 1)) :: (el, W.listOf (E ++ [Value.int (x.fmod K) tk]).toArray (c3 + 1)) ::
    (x', descObj d' (.str nm t1) (.int z t2) (.ref (D.getD (x.fmod K).toNat 0)) (.str dc t3)) :: (d', emptyDict) :: (y, tup4 (.str nm t1') (.int z t2') (.str dc t3') (.ref (D.getD (x.fmod K).toNat 0))) :: led) F (fun q hq => ?_) (fun q hq => ?_)
    ⟨D ++ [x'], T ++ [y], E ++ [.int (x.fmod K) tk], _, sh, to, el, _, _, _, v1, v2, ?_, ?_, ne1, ne2, ne3, rfl, rfl⟩
  · have e1 : refs (D ++ [x']) = Array.push (refs D) (.ref x') := by simp [refs]
    have e2 : refs (T ++ [y]) = List.toArray (List.map Value.ref T ++ [.ref y]) := by simp [refs]
    have e3 : (E ++ [Value.int (x.fmod K) tk]).toArray = Array.push E.toArray (.int (x.fmod K) tk) := by simp
    rw [e1, e2, e3] at hq
    refine N q ?_
    simp only [List.mem_append, List.mem_cons, List.not_mem_nil, or_false] at hq ⊢
    rcases hq with h | h | h | h | h | h | h | h <;> simp only [h, true_or, or_true]
  · have hled : ∀ q ∈ led, q.2.cls ≠ .type "list_iterator" := fun q hq => (S.cls q hq).2.1
    rcases List.mem_cons.mp hq with rfl | hq
    · k_cls
    · rcases List.mem_cons.mp hq with rfl | hq
      · k_cls
      · rcases List.mem_cons.mp hq with rfl | hq
        · k_cls
        · rcases List.mem_cons.mp hq with rfl | hq
          · k_cls
          · rcases List.mem_cons.mp hq with rfl | hq
            · k_cls
            · rcases List.mem_cons.mp hq with rfl | hq
              · k_cls
              · exact hled q hq
  · rw [he]
    exact shelf_more (ns := ns) S (eldersOk _) h0 (by (first | lia | omega))
  · rw [he]
    exact ints_snoc hE
theorem refs_get {D : List Addr} {j : Nat} (h : j < D.length) : (refs D)[j]? = some (.ref (D.getD j 0)) := by
  simp [refs, List.getD_eq_getElem?_getD, h]
theorem push_get {xs : Array Value} {v : Value} {j : Nat} (h : xs.size = j) : (xs.push v)[j]? = some v := by
  subst h
  simp
theorem snoc_get {l : List Value} {v : Value} {j : Nat} (h : l.length = j) : ((l ++ [v]).toArray)[j]? = some v := by
  subst h
  simp
local macro_rules | `(tactic| walk_at "call builtin:list.append") => `(tactic| (k_here; (with_reducible show wpAny _ _ (call (Value.builtin _) [Value.ref _, _]) _ _ _); k_dflt (refine' append_K ?k1 ?k2 ?k3 ?_ ?z; (case k1 => k_asm); (case k2 => k_asm); (case k3 => k_upd); (case z => (rw [sizeLine_eq]; (first | lia | omega))); k_whole); intro h' F' N'))
local macro_rules | `(tactic| walk_at "subscriptTail Name Name ref int") => `(tactic| (k_here; (with_reducible show wpAny _ _ (subscriptTail _ _ (Value.ref _) (Value.int _ _)) _ _ _); k_dflt (refine' item_list ?i1 ?i2 ?i3 ?i4 ?_ ?i5 ?i6; (case i1 => exact News.isList (by k_asm) (by k_mem)); (case i2 => (first | lia | omega)); (case i3 => (first | lia | omega)); (case i4 => first | exact push_get (by (first | lia | omega)) | exact snoc_get (by (first | lia | omega))); (case i5 => with_unfolding_all rfl); (case i6 => (intro _; with_unfolding_all rfl)); k_whole)))
theorem append_own {prog : Program} {w : World} {A : Around} {s : Shared} {h₀ : Heap} {L l : Addr} {v : Value} {m : Str → Option Value} {vs : Array Value} {c : Nat} {rest : Led} {Q E : Value → Shared → Prop} (F : Fr h₀ L s.heap m) (N : News h₀ L s.heap ((l, W.listOf vs c) :: rest)) (off : ∀ p ∈ rest, p.1 ≠ l) (hsz : vs.size ≤ 1000)
    (h : ∀ h', Fr h₀ L h' m → News h₀ L h' ((l, W.listOf (vs.push v) (c + 1)) :: rest) → Q .none { s with heap := h' }) :
    wpAny (model prog w) A (call (.builtin "list.append") [.ref l, v]) Q E s :=
  append_K F N (.head off) h (by rw [sizeLine_eq]; (first | lia | omega))
def verOf (o : Obj) : Nat := match o.data with | .seq _ n => n | _ => 0
def refHd (o : Obj) : Bool := match o.data with | .seq xs _ => (match xs.toList with | Value.ref _ :: _ => true | _ => false) | _ => false
theorem ne_by {α : Type} {g h : Heap} {L x y : Addr} {a b : Obj} {news : Led} (f : Obj → α) (N : News g L h news) (ha : (x, a) ∈ news) (hb : (y, b) ∈ news) (n : f a ≠ f b) : x ≠ y := fun e => by
  subst e
  exact n (congrArg f (Option.some.inj ((N _ ha).1.symm.trans (N _ hb).1)))
theorem allc {α : Type} {P : α → Prop} {x : α} {l : List α} (h : P x) (t : ∀ p ∈ l, P p) : ∀ p ∈ x :: l, P p := List.forall_mem_cons.mpr ⟨h, t⟩
theorem alln {α : Type} {P : α → Prop} : ∀ p ∈ ([] : List α), P p := fun _ h => (List.not_mem_nil h).elim
abbrev Cls3 (p : Addr × Obj) : Prop := p.2.cls ≠ .type "list" ∧ p.2.cls ≠ .type "list_iterator" ∧ p.2.cls ≠ .type "range_iterator"
theorem cls3_desc (x d : Addr) (n z r c : Value) : Cls3 (x, descObj d n z r c) := ⟨by k_cls, by k_cls, by k_cls⟩
theorem cls3_dict (x : Addr) : Cls3 (x, emptyDict) := ⟨by k_cls, by k_cls, by k_cls⟩
theorem cls3_tup (x : Addr) (a b c d : Value) : Cls3 (x, tup4 a b c d) := ⟨by k_cls, by k_cls, by k_cls⟩
theorem shelf_start {g h : Heap} {L : Addr} {news : Led} (N : News g L h news) {sh to el x1 x2 x3 y1 y2 y3 d1 d2 d3 : Addr} {n1 n2 n3 c1 c2 c3 : Str} {z1 z2 z3 : Int} {a1 a2 a3 a1' a2' a3' b1 b2 b3 b1' b2' b3' k1 k2 k3 k1' k2' k3' e1 e2 e3 : Tok}
    (hsh : (sh, W.listOf #[.ref x1, .ref x2, .ref x3] 0) ∈ news) (hto : (to, W.listOf (Array.push #[.ref y1, .ref y2] (.ref y3)) (0 + 1)) ∈ news) (hel : (el, W.listOf #[.int (-1) e1, .int (-1) e2, .int (-1) e3] 0) ∈ news)
    (hx1 : (x1, descObj d1 (.str n1 a1) (.int z1 b1) (.ref 67) (.str c1 k1)) ∈ news) (hd1 : (d1, emptyDict) ∈ news) (hy1 : (y1, tup4 (.str n1 a1') (.int z1 b1') (.str c1 k1') (.ref 67)) ∈ news)
    (hx2 : (x2, descObj d2 (.str n2 a2) (.int z2 b2) (.ref 81) (.str c2 k2)) ∈ news) (hd2 : (d2, emptyDict) ∈ news) (hy2 : (y2, tup4 (.str n2 a2') (.int z2 b2') (.str c2 k2') (.ref 81)) ∈ news)
    (hx3 : (x3, descObj d3 (.str n3 a3) (.int z3 b3) (.ref 74) (.str c3 k3)) ∈ news) (hd3 : (d3, emptyDict) ∈ news) (hy3 : (y3, tup4 (.str n3 a3') (.int z3 b3') (.str c3 k3') (.ref 74)) ∈ news) :
    ∃ led, ShelfLed [x1, x2, x3] [y1, y2, y3] (eldersOf []) led ∧ IntsAre [.int (-1) e1, .int (-1) e2, .int (-1) e3] (eldersOf []) ∧ sh ≠ to ∧ sh ≠ el ∧ to ≠ el ∧
      News g L h ((sh, W.listOf (refs [x1, x2, x3]) 0) :: (to, W.listOf (refs [y1, y2, y3]) 1) :: (el, W.listOf [.int (-1) e1, .int (-1) e2, .int (-1) e3].toArray 0) :: led) := by
  refine ⟨[(x1, descObj d1 (.str n1 a1) (.int z1 b1) (.ref 67) (.str c1 k1)), (d1, emptyDict), (y1, tup4 (.str n1 a1') (.int z1 b1') (.str c1 k1') (.ref 67)),
    (x2, descObj d2 (.str n2 a2) (.int z2 b2) (.ref 81) (.str c2 k2)), (d2, emptyDict), (y2, tup4 (.str n2 a2') (.int z2 b2') (.str c2 k2') (.ref 81)),
    (x3, descObj d3 (.str n3 a3) (.int z3 b3) (.ref 74) (.str c3 k3)), (d3, emptyDict), (y3, tup4 (.str n3 a3') (.int z3 b3') (.str c3 k3') (.ref 74))], ⟨rfl, rfl, ?_, ?_⟩, ?_, ?_, ?_, ?_, ?_⟩
  rotate_left 2
  · exact .cons _ _ (.cons _ _ (.cons _ _ .nil))
  · exact ne_by verOf N hsh hto (by show (0 : Nat) ≠ 1; decide)
  · exact ne_by refHd N hsh hel (by show true ≠ false; decide)
  · exact ne_by verOf N hto hel (by show (1 : Nat) ≠ 0; decide)
  · exact allc (N _ hsh) (allc (N _ hto) (allc (N _ hel) (allc (N _ hx1) (allc (N _ hd1) (allc (N _ hy1) (allc (N _ hx2) (allc (N _ hd2) (allc (N _ hy2) (allc (N _ hx3) (allc (N _ hd3) (allc (N _ hy3) alln)))))))))))
  · intro k hk
    have hk : k < 3 := hk
    match k, hk with
    | 0, _ => exact ⟨d1, n1, c1, z1, a1, b1, k1, a1', b1', k1', .head _, .tail _ (.head _), .tail _ (.tail _ (.head _))⟩
    | 1, _ => exact ⟨d2, n2, c2, z2, a2, b2, k2, a2', b2', k2', .tail _ (.tail _ (.tail _ (.head _))), .tail _ (.tail _ (.tail _ (.tail _ (.head _)))), .tail _ (.tail _ (.tail _ (.tail _ (.tail _ (.head _)))))⟩
    | 2, _ => exact ⟨d3, n3, c3, z3, a3, b3, k3, a3', b3', k3', .tail _ (.tail _ (.tail _ (.tail _ (.tail _ (.tail _ (.head _)))))), .tail _ (.tail _ (.tail _ (.tail _ (.tail _ (.tail _ (.tail _ (.head _))))))), .tail _ (.tail _ (.tail _ (.tail _ (.tail _ (.tail _ (.tail _ (.tail _ (.head _)))))))) ⟩
  · exact allc (cls3_desc _ _ _ _ _ _) (allc (cls3_dict _) (allc (cls3_tup _ _ _ _ _) (allc (cls3_desc _ _ _ _ _ _) (allc (cls3_dict _) (allc (cls3_tup _ _ _ _ _) (allc (cls3_desc _ _ _ _ _ _) (allc (cls3_dict _) (allc (cls3_tup _ _ _ _ _) alln))))))))
theorem law_shelf (w : World) (na : Addr) (nvs : List Value) (ns : List Int) (hI : IntsAre nvs ns) (hlen : ns.length ≤ 30) :
    Ctr w (kk.heap_1 w.params) (.ref 669) [.ref na] [] (fun h => h.IsList na nvs.toArray)
      (fun h v h' => ∃ (a sh to el : Addr) (D T : List Addr) (E : List Value) (led : Led) (c1 c2 c3 : Nat), v = .ref a ∧ ShelfLed D T (eldersOf ns) led ∧ IntsAre E (eldersOf ns) ∧ sh ≠ to ∧ sh ≠ el ∧ to ≠ el ∧
        ∀ p ∈ (a, ({ cls := .type "tuple", data := .seq #[.ref sh, .ref to, .ref el] } : Obj)) :: (sh, W.listOf (refs D) c1) :: (to, W.listOf (refs T) c2) :: (el, W.listOf E.toArray c3) :: led, h'.get? p.1 = some p.2 ∧ h.get? p.1 = none) 10 100 := by
  have : Fill PySem.Challenge.rw_in0200_01 kk.heap_1 := by k_fill; trivial
  clear this
  refine ctr_enter [(Str.ofString "numbers", .ref na)] (by k_is) (by k_is) (fun s X => BindsTo.of_eq rfl) (locs rfl) ?_
  intro dp un gd fr base g p loose mean mg mb s L' h₁ tk st B' X' T' hH hpre hdp hun hg F' N' hlt
  have hNl : g.IsList na nvs.toArray := hpre.at fun o e => st na o (fun h => nomatch h) e
  (repeat' ((fail_if_success (with_reducible show wpAny _ _ (exec (Stmt.For _ _ _ _ _) _) _ _ _)); first | (k_unfold; (try dsimp only)) | (k_end; kc_close) | walk1 | (dsimp only; walk1) | (leave1; (try dsimp only))))
  rename Fr _ _ _ _ => F1; rename News _ _ _ _ => N1
  obtain ⟨led, S0, I0, ne1, ne2, ne3, N2⟩ := shelf_start N1 (by k_mem) (by k_mem) (by k_mem) (by k_mem) (by k_mem) (by k_mem) (by k_mem) (by k_mem) (by k_mem) (by k_mem) (by k_mem) (by k_mem)
  refine For_invV g (by rfl) (by rfl) (ld F1 rfl ?_)
  refine iter_listB (ShJ ns na) rfl hNl F1 N2 ?_ ?_ ?_
  · exact ⟨_, _, _, led, _, _, _, _, _, _, none, none, S0, I0, ne1, ne2, ne3, rfl, shMap_start⟩
  · rintro i v m₁ news₁ h tk I io hv ⟨D, T, E, led, sh, to, el, c1, c2, c3, u1, u2, S, hE, ne1, ne2, ne3, rfl, rfl⟩ hio F2 N2 hoff
    clear F1 N1
    have hiN : i < ns.length := by
      have := (List.getElem?_eq_some_iff.mp hv).1
      rw [hI.length] at this
      exact this
    obtain ⟨x, tx, hx, rfl⟩ : ∃ x tx, ns[i]? = some x ∧ v = .int x tx := by
      obtain ⟨tx, e⟩ := hI.get i ns[i] (List.getElem?_eq_getElem hiN)
      rw [hv] at e
      exact ⟨_, tx, List.getElem?_eq_getElem hiN, Option.some.inj e⟩
    have hDl : D.length = 3 + i := by rw [S.lenD, eldersOf_length, List.length_take]; (first | lia | omega)
    k_steps
    have hsl : h.IsList sh (refs D) := ⟨_, N2.get (by k_mem), rfl, _, rfl⟩
    have hsz : ((refs D).size : Int) = 3 + (i : Int) := by simp [refs, hDl]
    refine' len_list ?l1 ?l2 ?_
    rotate_left 3
    (case l1 => exact hsl)
    (case l2 => rw [hsz]; (first | lia | omega))
    rw [hsz]
    obtain ⟨K, hK⟩ : ∃ K : Int, K = 3 + (i : Int) := ⟨_, rfl⟩
    rw [← hK]
    have hK3 : 3 ≤ K := by (first | lia | omega)
    have hK32 : K ≤ 32 := by (first | lia | omega)
    have hxk0 : 0 ≤ x.fmod K := Int.fmod_nonneg_of_pos x (by (first | lia | omega))
    have hxk1 : x.fmod K < K := Int.fmod_lt_of_pos x (by (first | lia | omega))
    have hz0 : 0 ≤ (x.fdiv K).fmod 1000 := Int.fmod_nonneg_of_pos _ (by decide)
    (repeat' ((fail_if_success (with_reducible show wpAny _ _ (subscriptTail _ _ _ _) _ _ _)); first | (k_unfold; (try dsimp only)) | (k_end; kc_close) | walk1 | (dsimp only; walk1) | (leave1; (try dsimp only))))
    rename Fr _ _ _ _ => F3; rename News _ _ _ _ => N3
    have hjD : (x.fmod K).toNat < D.length := by (first | lia | omega)
    refine' item_list ?i1 ?i2 ?i3 ?i4 ?_
    rotate_left 6
    (case i1 => exact ⟨_, N3.get (by k_mem), rfl, _, rfl⟩)
    (case i2 => exact hxk0)
    (case i3 => exact Int.lt_trans hxk1 (by (first | lia | omega)))
    (case i4 => exact refs_get hjD)
    have ne1' : @Ne Nat sh to := ne1
    have ne2' : @Ne Nat sh el := ne2
    have ne3' : @Ne Nat to el := ne3
    have hcl : ∀ p ∈ led, p.2.cls ≠ .type "list" := fun p hp => (S.cls p hp).1
    have sbl : ∀ p ∈ led, p ∈ (I, io) :: (sh, W.listOf (refs D) c1) :: (to, W.listOf (refs T) c2) :: (el, W.listOf E.toArray c3) :: led := fun p hp => .tail _ (.tail _ (.tail _ (.tail _ hp)))
    have o1 := off_led N3 (l := sh) (by k_mem) sbl rfl hcl
    have o2 := off_led N3 (l := to) (by k_mem) sbl rfl hcl
    have o3 := off_led N3 (l := el) (by k_mem) sbl rfl hcl
    have oI1 : @Ne Nat I sh := fun e => by
      have h1 := (N3 _ (.head _)).1
      have h2 := (N3 (sh, W.listOf (refs D) c1) (by k_mem)).1
      dsimp only at h1 h2
      rw [e, h2] at h1
      rw [← Option.some.inj h1] at hio
      exact absurd (Value.type.inj hio) (by decide)
    have oI2 : @Ne Nat I to := fun e => by
      have h1 := (N3 _ (.head _)).1
      have h2 := (N3 (to, W.listOf (refs T) c2) (by k_mem)).1
      dsimp only at h1 h2
      rw [e, h2] at h1
      rw [← Option.some.inj h1] at hio
      exact absurd (Value.type.inj hio) (by decide)
    have oI3 : @Ne Nat I el := fun e => by
      have h1 := (N3 _ (.head _)).1
      have h2 := (N3 (el, W.listOf E.toArray c3) (by k_mem)).1
      dsimp only at h1 h2
      rw [e, h2] at h1
      rw [← Option.some.inj h1] at hio
      exact absurd (Value.type.inj hio) (by decide)
    have hsD : (refs D).size = 3 + i := by simp [refs, hDl]
    have hsT : (refs T).size = 3 + i := by simp [refs, S.lenT, eldersOf_length]; (first | lia | omega)
    have hsE : E.toArray.size = 3 + i := by have := hE.length; simp [eldersOf_length] at this ⊢; (first | lia | omega)
    have hmT : (T.map Value.ref).length = 3 + i := by simp [S.lenT, eldersOf_length]; (first | lia | omega)
    have hmD : (D.map Value.ref).length = 3 + i := by simp [hDl]
    k_steps
    rename Fr _ _ _ _ => F5; rename News _ _ _ _ => N5
    exact shelf_turn_end S hE hx hK ne1 ne2 ne3 F5 N5
  · rintro m₁ news₁ h tk ⟨D, T, E, led, sh, to, el, c1, c2, c3, u1, u2, S, hE, ne1, ne2, ne3, rfl, rfl⟩ F2 N2
    clear F1 N1
    have hnl : ns.take nvs.length = ns := List.take_of_length_le (by rw [hI.length]; exact Nat.le_refl _)
    rw [hnl] at S hE
    k_steps
    rename Fr _ _ _ _ => F5; rename News _ _ _ _ => N5
    exact DoneC.intro F5 ⟨_, sh, to, el, D, T, E, led, _, _, _, rfl, S, hE, ne1, ne2, ne3, fun q hq => ⟨(N5 q hq).1, none_of_stay st (N5 q hq).2.2⟩⟩
end Mine
end
section
open PySem PySem.W PySem.Spec PySem.Calls PyProof.Rows
namespace Mine
set_option maxRecDepth 100000
set_option maxHeartbeats 1000000
theorem inst_keeps {h h' : Heap} {x C : Addr} {ox od : Obj} (I : InstAt h x ox C (some od)) (k : ∀ b o, h.get? b = some o → h'.get? b = some o) : InstAt h' x ox C (some od) := by
  obtain ⟨a, b, c, d⟩ := I
  refine ⟨k _ _ a, b, c, ?_⟩
  cases e : ox.dict with
  | none => rw [e] at d; exact d.elim
  | some dx => rw [e] at d; exact k _ _ d
theorem gets_slot {w : World} {h : Heap} {x C p i : Nat} {ox od : Obj} {name : Str} {v : Value} (X : (kk.heap_1 w.params).In h) (I : InstAt h x ox C (some od))
    (hg : plainGet (kk.heap_1 w.params) C name = true) (hc : isClsIn (kk.heap_1 w.params) C = true)
    (ha : findIn (kk.heap_1 w.params) (.ref C) name = some (some (.ref p))) (hn : specialIn (kk.heap_1 w.params) (.ref p) "__get__" = some (some (.builtin "member_descriptor.__get__")))
    (ht : takesIn (kk.heap_1 w.params) (.ref p) = some true) (hp : slotIn (kk.heap_1 w.params) p C = some i)
    (hv : (ox.slots[i]?).join = some v) (hh : handedIn v = true) : Gets w h (.ref x) name v := by
  intro A Q E s t k q
  have Xs : (kk.heap_1 w.params).In s.heap := X.keeps k
  have Is := inst_keeps I k
  refine kbm_getattr2 (kbm_bind Xs Is (plainGet_of hg).1 (findObj_data hc ha hn ht) (plainGet_of hg).2 (wpAny_call (slot_get (s := s) Xs Is hp hv (handed_on hh (q _)))))
theorem gets_desc (w : World) {h : Heap} {x d : Addr} {nm n rd dc : Value} (X : (kk.heap_1 w.params).In h) (hx : h.get? x = some (descObj d nm n rd dc)) (hd' : h.get? d = some emptyDict) :
    (handedIn nm = true → Gets w h (.ref x) (Str.ofString "name") nm) ∧ (handedIn n = true → Gets w h (.ref x) (Str.ofString "n") n) ∧
    (handedIn rd = true → Gets w h (.ref x) (Str.ofString "reader") rd) ∧ (handedIn dc = true → Gets w h (.ref x) (Str.ofString "doc") dc) := by
  have : Fill PySem.Challenge.rw_in0200_01 kk.heap_1 := by k_fill; trivial
  clear this
  have I : InstAt h x (descObj d nm n rd dc) 54 (some emptyDict) := ⟨hx, rfl, rfl, hd'⟩
  refine ⟨fun hh => gets_slot X I (by k_is) (by k_is) (by k_is) (by k_is) (by k_is) (by k_is) rfl hh, fun hh => gets_slot X I (by k_is) (by k_is) (by k_is) (by k_is) (by k_is) (by k_is) rfl hh,
    fun hh => gets_slot X I (by k_is) (by k_is) (by k_is) (by k_is) (by k_is) (by k_is) rfl hh, fun hh => gets_slot X I (by k_is) (by k_is) (by k_is) (by k_is) (by k_is) (by k_is) rfl hh⟩
end Mine
end
section
open PySem PySem.W PySem.Spec PySem.Calls PyProof.Rows
namespace Mine
set_option maxRecDepth 100000
set_option maxHeartbeats 400000
/-- the row of elders from k on -/
def rowF (es : List Int) : Nat → Int → List Int
  | 0, k => [k]
  | f + 1, k => if 0 ≤ es.getD k.toNat 0 then k :: rowF es f (es.getD k.toNat 0) else [k]
theorem rowF_more (es : List Int) (hes : ∀ j < es.length, es.getD j 0 < j) : ∀ (f g : Nat) (k : Int), 0 ≤ k → k < es.length → k.toNat ≤ f → k.toNat ≤ g → rowF es f k = rowF es g k
  | 0, 0, _, _, _, _, _ => rfl
  | f + 1, 0, k, h0, h1, _, hg => by
    have hk : k = 0 := by (first | lia | omega)
    subst hk
    have := hes 0 (by (first | lia | omega))
    have hn : ¬ 0 ≤ es.getD (0 : Int).toNat 0 := by
      intro q
      have e : (0 : Int).toNat = 0 := rfl
      rw [e] at q
      (first | lia | omega)
    simp only [rowF, if_neg hn]
  | 0, g + 1, k, h0, h1, hf, _ => by
    have hk : k = 0 := by (first | lia | omega)
    subst hk
    have := hes 0 (by (first | lia | omega))
    have hn : ¬ 0 ≤ es.getD (0 : Int).toNat 0 := by
      intro q
      have e : (0 : Int).toNat = 0 := rfl
      rw [e] at q
      (first | lia | omega)
    simp only [rowF, if_neg hn]
  | f + 1, g + 1, k, h0, h1, hf, hg => by
    simp only [rowF]
    split
    · rename_i q
      have hlt := hes k.toNat (by (first | lia | omega))
      rw [rowF_more es hes f g (es.getD k.toNat 0) q (by (first | lia | omega)) (by (first | lia | omega)) (by (first | lia | omega))]
    · rfl
theorem rowF_step (es : List Int) (hes : ∀ j < es.length, es.getD j 0 < j) (k : Int) (h0 : 0 ≤ k) (h1 : k < es.length) (hb : 0 ≤ es.getD k.toNat 0) :
    rowF es k.toNat k = k :: rowF es (es.getD k.toNat 0).toNat (es.getD k.toNat 0) := by
  have hlt := hes k.toNat (by (first | lia | omega))
  obtain ⟨f, hf⟩ : ∃ f, k.toNat = f + 1 := ⟨k.toNat - 1, by (first | lia | omega)⟩
  have e : rowF es k.toNat k = rowF es (f + 1) k := by rw [hf]
  rw [e, rowF, if_pos hb, rowF_more es hes f _ (es.getD k.toNat 0) hb (by (first | lia | omega)) (by (first | lia | omega)) (Nat.le_refl _)]
theorem rowF_last (es : List Int) (k : Int) (hb : ¬ 0 ≤ es.getD k.toNat 0) : ∀ f, rowF es f k = [k]
  | 0 => rfl
  | f + 1 => by rw [rowF, if_neg hb]
theorem ints_snocR {vs : List Value} {ns : List Int} {n : Int} {t : Tok} (h : IntsAre vs ns) : IntsAre (vs ++ [.int n t]) (ns ++ [n]) := by
  induction h with
  | nil => exact .cons n t .nil
  | cons a b _ ih => exact .cons a b ih
theorem law_row (w : World) (el : Addr) (evs : List Value) (es : List Int) (hI : IntsAre evs es) (hlen : es.length ≤ 1000) (hes : ∀ j < es.length, es.getD j 0 < j) (k : Int) (tk0 : Tok) (hk0 : 0 ≤ k) (hk1 : k < es.length) :
    Ctr w (kk.heap_1 w.params) (.ref 676) [.ref el, .int k tk0] [] (fun h => h.IsList el evs.toArray)
      (fun h v h' => ∃ r vs c, v = .ref r ∧ h.get? r = none ∧ h'.get? r = some (W.listOf (List.toArray vs) c) ∧ IntsAre vs (rowF es k.toNat k)) 3 30 := by
  have : Fill PySem.Challenge.rw_in0200_01 kk.heap_1 := by k_fill; trivial
  clear this
  refine ctr_enter [(Str.ofString "elder", .ref el), (Str.ofString "k", .int k tk0)] (by k_is) (by k_is) (fun s X => BindsTo.of_eq rfl) (locs rfl) ?_
  intro dp un gd fr base g p loose mean mg mb s L' h₁ tk st B' X' T' hH hpre hdp hun hg F' N' hlt
  have hEl : g.IsList el evs.toArray := hpre.at fun o e => st el o (fun h => nomatch h) e
  repeat' ((fail_if_success (with_reducible show wpAny _ _ (exec (Stmt.While _ _ _ _) _) _ _ _)); first | (k_unfold; (try dsimp only)) | (k_end; kc_close) | walk1 | (dsimp only; walk1) | (leave1; (try dsimp only)))
  rename Fr _ _ _ _ => F1; rename News _ _ _ _ => N1
  refine While_inv (n₀ := k.toNat) (fun n m news => ∃ (pre : List Int) (last : Int) (vs : List Value) (r : Addr) (c : Nat), 0 ≤ last ∧ last < es.length ∧ n = last.toNat ∧ pre.length + last.toNat ≤ k.toNat ∧ rowF es k.toNat k = pre ++ rowF es n last ∧ IntsAre vs (pre ++ [last]) ∧ news = [(r, W.listOf vs.toArray c)] ∧
    m = fun y => if y = Str.ofString "row" then some (.ref r) else List.lookup y [(Str.ofString "elder", .ref el), (Str.ofString "k", .int k tk0)].reverse) F1 N1 ?_ ?_
  · exact ⟨[], k, _, _, _, hk0, hk1, rfl, by simp, by simp, .cons k tk0 .nil, rfl, rfl⟩
  · rintro n m₁ news₁ h₁ tk₁ F2 N2 ⟨pre, last, vs, r, c, h0, h1, rfl, hlp, hrow, hvs, rfl, rfl⟩
    have hvl : vs.length ≤ 1001 := by have := hvs.length; simp at this; (first | lia | omega)
    have hev : last.toNat < es.length := by (first | lia | omega)
    have hdec := hes last.toNat hev
    k_steps
    · rename Fr _ _ _ _ => F3; rename News _ _ _ _ => N3
      have hb : 0 ≤ es.getD last.toNat 0 := by first | assumption | (first | lia | omega) | simp_all
      rw [List.push_toArray] at N3
      refine WhileStep.intro F3 N3 (n' := (es.getD last.toNat 0).toNat) (by (first | lia | omega)) ⟨pre ++ [last], es.getD last.toNat 0, _, r, _, hb, by (first | lia | omega), rfl, ?_, ?_, ?_, rfl, rfl⟩
      · simp only [List.length_append, List.length_cons, List.length_nil]; (first | lia | omega)
      · rw [hrow, rowF_step es hes last h0 h1 hb]; simp
      · exact ints_snocR hvs
    · rename Fr _ _ _ _ => F3; rename News _ _ _ _ => N3
      have hb : ¬ 0 ≤ es.getD last.toNat 0 := by first | assumption | (first | lia | omega) | simp_all
      refine DoneC.intro F3 ⟨r, vs, _, rfl, none_of_stay st (N3 _ (by k_mem)).2.2, N3.get (by k_mem), ?_⟩
      rw [hrow, rowF_last es last hb]
      exact hvs
end Mine
end
section
open PySem PySem.W PySem.Spec PySem.Calls PyProof.Rows
namespace Mine
set_option maxRecDepth 100000
set_option maxHeartbeats 1000000
/-- a row of elders, down to a root -/
def RowOk (es : List Int) : List Int → Prop
  | [] => False
  | [r] => 0 ≤ r ∧ r < es.length ∧ ¬ 0 ≤ es.getD r.toNat 0
  | r :: s :: t => 0 ≤ r ∧ r < es.length ∧ 0 ≤ es.getD r.toNat 0 ∧ s = es.getD r.toNat 0 ∧ RowOk es (s :: t)
theorem rowF_head (es : List Int) : ∀ (f : Nat) (k : Int), ∃ t, rowF es f k = k :: t
  | 0, k => ⟨[], rfl⟩
  | f + 1, k => by
    unfold rowF
    split
    · exact ⟨_, rfl⟩
    · exact ⟨[], rfl⟩
theorem rowF_ok {es : List Int} (ho : EldersOk es) : ∀ (f : Nat) (k : Int), 0 ≤ k → k < es.length → k.toNat ≤ f → RowOk es (rowF es f k)
  | 0, k, h0, h1, h2 => by
    have : k.toNat = 0 := by (first | lia | omega)
    have h := ho k.toNat (by (first | lia | omega))
    exact ⟨h0, h1, by (first | lia | omega)⟩
  | f + 1, k, h0, h1, h2 => by
    unfold rowF
    split
    · rename_i hb
      have h := ho k.toNat (by (first | lia | omega))
      obtain ⟨t, e⟩ := rowF_head es f (es.getD k.toNat 0)
      have ih := rowF_ok ho f (es.getD k.toNat 0) hb (by (first | lia | omega)) (by (first | lia | omega))
      rw [e] at ih ⊢
      exact ⟨h0, h1, hb, rfl, ih⟩
    · rename_i hb
      exact ⟨h0, h1, hb⟩
theorem rowF_length {es : List Int} : ∀ (f : Nat) (k : Int), (rowF es f k).length ≤ f + 1
  | 0, k => Nat.le_refl _
  | f + 1, k => by
    unfold rowF
    split
    · have := rowF_length (es := es) f (es.getD k.toNat 0)
      simp only [List.length_cons]
      (first | lia | omega)
    · simp
theorem RowOk.at_ {es : List Int} : ∀ {row : List Int}, RowOk es row → ∀ i, i < row.length → 0 ≤ row.getD i 0 ∧ row.getD i 0 < es.length ∧ (i + 1 < row.length → 0 ≤ es.getD (row.getD i 0).toNat 0 ∧ row.getD (i + 1) 0 = es.getD (row.getD i 0).toNat 0) ∧ (i + 1 = row.length → ¬ 0 ≤ es.getD (row.getD i 0).toNat 0)
  | [], h, _, _ => h.elim
  | [r], h, 0, _ => ⟨h.1, h.2.1, fun q => absurd q (Nat.lt_irrefl 1), fun _ => h.2.2⟩
  | [r], h, i + 1, q => by simp at q
  | r :: s :: t, h, 0, _ => ⟨h.1, h.2.1, fun _ => ⟨h.2.2.1, h.2.2.2.1⟩, fun q => by simp at q⟩
  | r :: s :: t, h, i + 1, q => by
    have := RowOk.at_ h.2.2.2.2 i (by simpa using q)
    simp only [List.getD_cons_succ, List.length_cons] at this ⊢
    exact ⟨this.1, this.2.1, fun q => this.2.2.1 (by (first | lia | omega)), fun q => this.2.2.2 (by (first | lia | omega))⟩
theorem RowOk.rd {es : List Int} {row : List Int} (h : RowOk es row) (D : List Addr) (i : Nat) (hi : i < row.length) : rdOf D es (row.getD i 0).toNat = if i + 1 < row.length then .ref (D.getD (row.getD (i + 1) 0).toNat 0) else .ref (rootFn (row.getD i 0).toNat) := by
  have a := h.at_ i hi
  unfold rdOf
  by_cases q : i + 1 < row.length
  · obtain ⟨b, c⟩ := a.2.2.1 q
    rw [if_pos b, if_pos q, c]
  · rw [if_neg (a.2.2.2 (by (first | lia | omega))), if_neg q]
theorem path_len9 {ps : List Str} (hp : ∀ p ∈ ps, p ∈ pcs7) : (Txt.join (Str.ofString ".") ps).length ≤ ps.length * 9 := by
  rw [join_eq]
  refine Nat.le_trans (StrLaws.join_length_le _ _) ?_
  have e : (ps.map (·.length)).sum ≤ ps.length * 8 := by
    induction ps with
    | nil => exact Nat.le_refl _
    | cons x r ih =>
      have := ih fun p h => hp p (List.mem_cons_of_mem _ h)
      have h8 := (pcs7_c (hp x List.mem_cons_self)).2
      simp only [List.map_cons, List.sum_cons, List.length_cons]
      (first | lia | omega)
  have e1 : (⟨#[46]⟩ : Str).length = 1 := rfl
  rw [e1]
  (first | lia | omega)
abbrev rdr : Str := Str.ofString "reader"
/-- the path of m readers and a part behind -/
abbrev rPath (m : Nat) (p : Str) : List Str := List.replicate m rdr ++ [p]
theorem rPath_at {m i : Nat} {p q : Str} (h : (rPath m p)[i]? = some q) : (i < m ∧ q = rdr) ∨ (i = m ∧ q = p) := by
  unfold rPath at h
  by_cases c : i < m
  · rw [List.getElem?_append_left (by simpa using c), List.getElem?_replicate, if_pos c] at h
    exact .inl ⟨c, (Option.some.inj h).symm⟩
  · rw [List.getElem?_append_right (by simp; (first | lia | omega)), List.length_replicate] at h
    have : i = m := by
      have := (List.getElem?_eq_some_iff.mp h).1
      simp at this
      (first | lia | omega)
    subst this
    simp at h
    exact .inr ⟨rfl, h.symm⟩
/-- the part p of a descriptor -/
def PartOf (p : Str) (nm n rd dc v : Value) : Prop := (p = Str.ofString "name" ∧ v = nm) ∨ (p = Str.ofString "n" ∧ v = n) ∨ (p = Str.ofString "reader" ∧ v = rd) ∨ (p = Str.ofString "doc" ∧ v = dc)
theorem ga_part (w : World) {D T : List Addr} {es : List Int} {led : Led} (S : ShelfLed D T es led) {row : List Int} (hr : RowOk es row) (m : Nat) (hm : m < row.length) (hlen : row.length ≤ 40) (p : Str) {nm n rd dc v : Value} {dd : Addr} (t : Tok)
    (hd1 : (D.getD (row.getD m 0).toNat 0, descObj dd nm n rd dc) ∈ led) (hd2 : (dd, emptyDict) ∈ led) (hv : PartOf p nm n rd dc v) (hh : handedIn v = true) :
    Ctr w (kk.heap_1 w.params) (.ref 35) [.ref (D.getD (row.getD 0 0).toNat 0), .str (Txt.join (Str.ofString ".") (rPath m p)) t] [] (fun h => (kk.heap_1 w.params).In h ∧ ∀ q ∈ led, h.get? q.1 = some q.2)
      (fun h v' h' => ∃ a, v' = .ref a ∧ h.get? a = none ∧ h'.get? a = some { cls := .type "tuple", data := .seq #[v, .ref (D.getD (row.getD m 0).toNat 0)] }) 10 100 := by
  have hpp : p ∈ pcs ∧ p ∈ pcs7 := by
    simp only [List.mem_cons, List.not_mem_nil, or_false]
    rcases hv with ⟨rfl, _⟩ | ⟨rfl, _⟩ | ⟨rfl, _⟩ | ⟨rfl, _⟩ <;> simp
  have hrd : rdr ∈ pcs ∧ rdr ∈ pcs7 := by simp [rdr]
  have h7 : ∀ q ∈ rPath m p, q ∈ pcs ∧ q ∈ pcs7 := fun q hq => by
    rcases List.mem_append.mp hq with hq | hq
    · rw [List.eq_of_mem_replicate hq]; exact hrd
    · rw [List.mem_singleton.mp hq]; exact hpp
  have hne : rPath m p ≠ [] := by simp [rPath]
  have hl : (rPath m p).length = m + 1 := by simp [rPath]
  have hpl := path_len9 fun q hq => (h7 q hq).2
  have C := ga_ok w (.ref (D.getD (row.getD 0 0).toNat 0)) (Txt.join (Str.ofString ".") (rPath m p)) t (rPath m p) (fun i => if i ≤ m then .ref (D.getD (row.getD i 0).toNat 0) else v)
    (split_join hne fun q hq => (h7 q hq).2) (by rw [hl] at hpl; (first | lia | omega)) rfl (fun q hq => (h7 q hq).1) hne
  rw [hl] at C
  intro dp un gd fr s R Si hH hpre hdp hu ret
  obtain ⟨X, hled⟩ := hpre
  refine C dp un gd fr s R Si hH (fun i q e => ?_) hdp hu fun v' h' tk' st hp => ret v' h' tk' st ?_
  · have hle : i ≤ m := by
      rcases rPath_at e with ⟨a, -⟩ | ⟨a, -⟩ <;> (first | lia | omega)
    show Gets w s.heap (if i ≤ m then _ else _) q (if i + 1 ≤ m then _ else _)
    rw [if_pos hle]
    rcases rPath_at e with ⟨a, rfl⟩ | ⟨rfl, rfl⟩
    · rw [if_pos (by (first | lia | omega))]
      obtain ⟨r0, r1, r2, -⟩ := hr.at_ i (by (first | lia | omega))
      obtain ⟨d', nm', dc', z', t1, t2, t3, t1', t2', t3', m1, m2, -⟩ := S.at_ (row.getD i 0).toNat (by (first | lia | omega))
      have e3 := hr.rd D i (by (first | lia | omega))
      rw [if_pos (by (first | lia | omega))] at e3
      rw [e3] at m1
      exact (gets_desc w X (hled _ m1) (hled _ m2)).2.2.1 rfl
    · rw [if_neg (by (first | lia | omega))]
      have G := gets_desc w X (hled _ hd1) (hled _ hd2)
      rcases hv with ⟨rfl, rfl⟩ | ⟨rfl, rfl⟩ | ⟨rfl, rfl⟩ | ⟨rfl, rfl⟩
      · exact G.1 hh
      · exact G.2.1 hh
      · exact G.2.2.1 hh
      · exact G.2.2.2 hh
  · obtain ⟨a, e1, e2, e3⟩ := hp
    refine ⟨a, e1, e2, ?_⟩
    rw [e3, if_neg (Nat.not_succ_le_self m), Nat.add_sub_cancel, if_pos (Nat.le_refl m)]
end Mine
end
section
open PySem PySem.W PySem.Spec PySem.Calls PyProof.Rows
namespace Mine
set_option maxRecDepth 100000
set_option maxHeartbeats 1000000
namespace FA
theorem slot_len : Slot "bytearray" "__len__" "bytearray.__len__" :=
  .of (owner := "bytearray") (n := "__len__") (by rw [typeLookup_type, builtinLookup_eq_fast]; kernel_rfl) (by decide +kernel) (by decide +kernel) (by decide +kernel)
    (by first | exact .inl (by decide +kernel) | exact .inr (by decide +kernel)) (by rw [isSubtype_type]; kernel_rfl)
theorem entry_len : entryFor table "bytearray.__len__" = some Builtin.«bytearray.__len__» := entryFor_of_tree (by kernel_rfl)
theorem args_len (a : Value) : argsOk "bytearray.__len__" ⟨[a], []⟩ := by unfold argsOk; kernel_rfl
theorem noBytes : typeLookup (.type "bytearray") "__bytes__" = pure none := by rw [typeLookup_type, builtinLookup_eq_fast]; kernel_rfl
theorem noIndex : typeLookup (.type "bytearray") "__index__" = pure none := by rw [typeLookup_type, builtinLookup_eq_fast]; kernel_rfl
theorem buffer : typeLookup (.type "bytearray") "__buffer__" = pure (some (.builtin "bytearray.__buffer__")) := by rw [typeLookup_type, builtinLookup_eq_fast]; kernel_rfl
theorem release : typeLookup (.type "bytearray") "__release_buffer__" = pure (some (.builtin "bytearray.__release_buffer__")) := by rw [typeLookup_type, builtinLookup_eq_fast]; kernel_rfl
theorem sub_self : isSubtype (.type "bytearray") (.type "bytearray") = pure true := by rw [isSubtype_type]; kernel_rfl
end FA
section
variable {prog : Program} {w : World} {A : Around} {E : Value → Shared → Prop} {s : Shared} {a : Addr} {b : Array UInt8} {sl : Array (Option Value)} {d : Option Addr} {n : Nat}
abbrev baObj (b : Array UInt8) : Obj := { cls := .type "bytearray", data := .bytearray b }
theorem ba_type (ho : s.heap.get? a = some (baObj b)) : s.TypeIs (.ref a) "bytearray" := ⟨_, ho, rfl⟩
theorem ba_len {Q : Value → Shared → Prop} (ho : s.heap.get? a = some (baObj b)) (hfit : b.size ≤ 1000000)
    (h : ∀ t k, Q (.int b.size t) { s with toks := k }) : wpAny (model prog w) A (call (.builtin "len") [.ref a]) Q E s := by
  have hT := ba_type ho
  refine call_function_entry kind_len plain_len entry_len (args_len1 _) ?_
  unfold Builtin.«len»
  refine wpAny_bind (m := oneArg "len" _) (wpAny_pure ?_)
  refine wpAny_bind (m := callSpecial? (.ref a) (Str.ofString "__len__")) (wpAny_callSpecial?_slot (name := Str.ofString "__len__") hT FA.slot_len
    (wpAny_call_entry FA.slot_len hT FA.entry_len ?_ (FA.args_len _)))
  · show wpAny _ _ (do retInt (← Builtin.Bytes.payload (.ref a)).size) _ _ s
    refine wpAny_bind (wpAny_bind ?_)
    show wpAny _ _ (load a >>= _) _ _ _
    refine wpAny_bind (wpAny_load ho ?_)
    refine wpAny_pure (wpAny_pure (wpAny_bind (wpAny_mkInt (wpAny_pure ⟨_, rfl, ?_⟩))))
    refine wpAny_bind (wpAny_holding (wpAny_pure ?_))
    refine wpAny_bind (wpAny_letGo ?_)
    show wpAny _ _ (if ((b.size : Nat) : Int) < 0 then _ else _) _ _ _
    rw [if_neg (by (first | lia | omega))]
    show wpAny _ _ (if ((b.size : Nat) : Int) ≥ 2 ^ 63 then _ else _) _ _ _
    rw [if_neg (by (first | lia | omega))]
    exact wpAny_bind (wpAny_mkInt (wpAny_pure ⟨_, rfl, h _ _⟩))
theorem ba_bytes_new {Q : Value → Shared → Prop} (ho : s.heap.get? a = some (baObj b)) (hfit : b.size ≤ 1000000)
    (h : ∀ t k, Q (.bytes b t) { s with toks := k }) : codeAny (model prog w) A (.call (.builtin "bytes.__new__") ⟨[.type "bytes", .ref a], []⟩) (wants Q E) s := by
  have hT := ba_type ho
  refine codeAny_of_tree ?_
  show wpAny _ A.in1 (do checkBuiltinCall "bytes.__new__" ⟨[.type "bytes", .ref a], []⟩; again (.builtin "bytes.__new__" ⟨[.type "bytes", .ref a], []⟩)) _ _ s
  refine wpAny_bind (wpAny_of_eq (F.bm_newCall _) (wpAny_pure ⟨plainId_quiet F.bm_plain _, codeAny_builtin F.bm_entry ?_⟩))
  rw [Around.under_plainId F.bm_plain _]
  unfold Builtin.«bytes.__new__»
  refine wpAny_bind (wpAny_of_eq (a := true) rfl ?_)
  refine bm_if_false rfl ?_
  refine wpAny_bind (wpAny_of_eq F.bm_sub ?_)
  refine bm_if_false rfl ?_
  refine wpAny_bind (wpAny_of_eq (F.bm_bind _) ?_)
  refine wpAny_bind (wpAny_of_eq (a := ()) rfl ?_)
  refine wpAny_bind (wpAny_of_eq (a := ()) rfl ?_)
  refine bm_if_false rfl ?_
  refine wpAny_bind (wpAny_specialOf hT FA.noBytes ?_)
  refine wpAny_bind (wpAny_bind ?_)
  show wpAny _ _ (load a >>= _) _ _ _
  refine wpAny_bind (wpAny_load ho ?_)
  refine wpAny_pure (wpAny_pure ?_)
  refine bm_if_false rfl ?_
  refine wpAny_bind (wpAny_specialOf hT FA.noIndex ?_)
  refine bm_if_true rfl ?_
  first
    | show wpAny _ _ (Builtin.Bytes.buffer? "bytes.__new__" (.ref a) true >>= _) _ _ _
    | (refine wpAny_bind ?_; show wpAny _ _ (Builtin.Bytes.buffer? "bytes.__new__" (.ref a) true >>= _) _ _ _)
  refine wpAny_bind ?_
  unfold Builtin.Bytes.buffer?
  refine wpAny_bind (wpAny_specialOf hT FA.buffer ?_)
  have f1 := FA.buffer
  have f2 := FA.release
  have f3 := FA.sub_self
  repeat (any_goals (first | assumption | wp_step))
  refine bm_if_false (by decide +kernel) ?_
  rw [show String.dropRight "bytearray.__buffer__" (String.length "__buffer__" + 1) = "bytearray" by decide +kernel]
  refine wpAny_isInstance hT FA.sub_self ?_
  refine bm_if_false rfl ?_
  refine wpAny_bind (wpAny_specialOf hT FA.buffer ?_)
  repeat (any_goals (first | assumption | wp_step))
  refine bm_if_false (by decide +kernel) ?_
  rw [show String.dropRight "bytearray.__release_buffer__" (String.length "__release_buffer__" + 1) = "bytearray" by decide +kernel]
  refine wpAny_isInstance hT FA.sub_self ?_
  repeat (any_goals (first | assumption | wp_step))
  rw [if_neg (show ¬ b.size > sizeLine by rw [sizeLine_eq]; (first | lia | omega))]
  repeat (any_goals (first | assumption | wp_step))
  exact h _ _
theorem ba_bytes {Q : Value → Shared → Prop} (ho : s.heap.get? a = some (baObj b)) (hfit : b.size ≤ 1000000)
    (h : ∀ t k, Q (.bytes b t) { s with toks := k }) : wpAny (model prog w) A (call (.type "bytes") [.ref a]) Q E s := by
  refine callType_codes (Q₁ := fun obj s₁ => s₁.TypeIs obj "bytes" ∧ Q obj s₁) F.bm_called (F.bm_typeCall _) F.entry_object_init
    (ba_bytes_new ho hfit fun t k => ⟨PySem.W.typeIs_bytes _ _ _, h t k⟩) fun obj s₁ h₁ => ?_
  exact ⟨h₁.1, F.args_object_init_2 obj _, object_init_meets F.bm_called.init.lookup F.bm_called.made (by decide) prog w A.in1 _ s₁ ⟨h₁.1, rfl, h₁.2⟩⟩

namespace FA
theorem mro : mroOf (.type "bytearray") = pure [.type "bytearray", .type "object"] := by rw [mroOf_type]; kernel_rfl
theorem lookup_new : typeLookup (.type "bytearray") "__new__" = pure (some (.builtin "bytearray.__new__")) := by rw [typeLookup_type, builtinLookup_eq_fast]; kernel_rfl
theorem slot_init : Slot "bytearray" "__init__" "bytearray.__init__" :=
  .of (owner := "bytearray") (n := "__init__") (by rw [typeLookup_type, builtinLookup_eq_fast]; kernel_rfl) (by decide +kernel) (by decide +kernel) (by decide +kernel)
    (by first | exact .inl (by decide +kernel) | exact .inr (by decide +kernel)) (by rw [isSubtype_type]; kernel_rfl)
theorem called : TypeCalled "bytearray" "bytearray.__new__" "bytearray.__init__" :=
  ⟨by decide +kernel, by decide +kernel, ⟨_, _, mro⟩, madeBy_type mro lookup_new (by decide +kernel), by decide +kernel, by rw [isSubtype_type]; kernel_rfl, slot_init⟩
theorem typeCall (a : Value) : checkTypeCall "bytearray" ⟨[a], []⟩ = pure () := by kernel_rfl
theorem newCall (a : Value) : checkBuiltinCall "bytearray.__new__" ⟨[.type "bytearray", a], []⟩ = pure () := by kernel_rfl
theorem plain_new : plainId "bytearray.__new__" = true := by decide +kernel
theorem entry_new : entryFor table "bytearray.__new__" = some Builtin.«list.__new__» := entryFor_alias (id' := "list.__new__") (by kernel_rfl) (by first | rfl | decide +kernel) (by decide +kernel) (by kernel_rfl)
theorem entry_init : entryFor table "bytearray.__init__" = some Builtin.«bytearray.__init__» := by first | exact entryFor_of_fast (by kernel_rfl) | exact entryFor_of_tree (by kernel_rfl)
theorem args_init (a b : Value) : argsOk "bytearray.__init__" ⟨[a, b], []⟩ := by unfold argsOk; kernel_rfl
theorem owner_new : ("bytearray.__new__".splitOn ".__new__").headD "" = "bytearray" := by simp +decide [String.splitOn, String.splitOnAux]
theorem noDict : typeHasDict (.type "bytearray") = false := by first | rfl | decide +kernel
end FA
theorem code_ba_new (x : Value) {Q₁ : Value → Shared → Prop}
    (h : Q₁ (.ref s.heap.objs.size) { s with heap := s.heap.push (baObj #[]) }) :
    codeAny (model prog w) A (.call (.builtin "bytearray.__new__") ⟨[.type "bytearray", x], []⟩) (wants Q₁ E) s := by
  refine codeAny_of_tree ?_
  show wpAny _ A.in1 (do checkBuiltinCall "bytearray.__new__" ⟨[.type "bytearray", x], []⟩; again (.builtin "bytearray.__new__" ⟨[.type "bytearray", x], []⟩)) _ _ s
  refine wpAny_bind (wpAny_of_eq (FA.newCall x) (wpAny_pure ⟨plainId_quiet FA.plain_new _, codeAny_builtin_stack FA.entry_new rfl fun p st => ?_⟩))
  rw [Around.under_plainId FA.plain_new _]
  have hsub := FA.sub_self
  have hown := FA.owner_new
  have hnd := FA.noDict
  obtain ⟨hp, g, d, tk, os⟩ := s
  simp only [hown]
  wp_walk
  exact h
end
end Mine
end
section
open PySem PySem.W PySem.Spec PySem.Calls PyProof.Rows
namespace Mine
set_option maxRecDepth 100000
set_option maxHeartbeats 1000000
namespace FA
theorem by_noIndex : typeLookup (.type "bytes") "__index__" = pure none := by rw [typeLookup_type, builtinLookup_eq_fast]; kernel_rfl
theorem by_buffer : typeLookup (.type "bytes") "__buffer__" = pure (some (.builtin "bytes.__buffer__")) := by rw [typeLookup_type, builtinLookup_eq_fast]; kernel_rfl
theorem by_release : typeLookup (.type "bytes") "__release_buffer__" = pure none := by rw [typeLookup_type, builtinLookup_eq_fast]; kernel_rfl
theorem by_sub : isSubtype (.type "bytes") (.type "bytes") = pure true := by rw [isSubtype_type]; kernel_rfl
theorem bind_init (x : Value) : Builtin.Bytes.bindOptional "bytearray.__init__" "bytearray" ["source", "encoding", "errors"] [x] [] = pure [some x, none, none] := by rfl
end FA
section
variable {prog : Program} {w : World} {A : Around} {E : Value → Shared → Prop} {s : Shared} {a : Addr} {b : Array UInt8} {sl : Array (Option Value)} {d : Option Addr} {n : Nat}
theorem ba_ownRelease {Q : Bool → Shared → Prop} (ho : s.heap.get? a = some (baObj b)) (h : Q false s) : wpAny (model prog w) A (Builtin.Bytes.ownRelease (.ref a)) Q E s := by
  have hT := ba_type ho
  unfold Builtin.Bytes.ownRelease Builtin.Bytes.slotIsOwn
  refine wpAny_bind (wpAny_bind (wpAny_specialOf hT FA.release ?_))
  dsimp only
  refine bm_if_false (by decide +kernel) ?_
  rw [show String.dropRight "bytearray.__release_buffer__" (String.length "__release_buffer__" + 1) = "bytearray" by decide +kernel]
  exact wpAny_isInstance hT FA.sub_self (wpAny_pure h)
theorem by_ownRelease {Q : Bool → Shared → Prop} {t : Tok} (h : Q false s) : wpAny (model prog w) A (Builtin.Bytes.ownRelease (.bytes b t)) Q E s := by
  unfold Builtin.Bytes.ownRelease Builtin.Bytes.slotIsOwn
  refine wpAny_bind (wpAny_bind (wpAny_specialOf (PySem.W.typeIs_bytes _ _ _) FA.by_release ?_))
  exact wpAny_pure (wpAny_pure h)
theorem by_buffer {Q : Option (Array UInt8) → Shared → Prop} {t : Tok} {id : String} (h : Q (some b) s) : wpAny (model prog w) A (Builtin.Bytes.buffer? id (.bytes b t) true) Q E s := by
  have hT : s.TypeIs (.bytes b t) "bytes" := PySem.W.typeIs_bytes _ _ _
  unfold Builtin.Bytes.buffer?
  refine wpAny_bind (wpAny_specialOf hT FA.by_buffer ?_)
  dsimp only
  unfold Builtin.Bytes.slotIsOwn
  refine wpAny_bind (wpAny_bind (wpAny_specialOf hT FA.by_buffer ?_))
  dsimp only
  refine bm_if_false (by decide +kernel) ?_
  rw [show String.dropRight "bytes.__buffer__" (String.length "__buffer__" + 1) = "bytes" by decide +kernel]
  refine wpAny_isInstance hT FA.by_sub ?_
  refine bm_if_false rfl ?_
  refine wpAny_bind (wpAny_specialOf hT FA.by_buffer ?_)
  (try dsimp only)
  refine wpAny_bind (by_ownRelease ?_)
  refine bm_if_false rfl ?_
  exact wpAny_bind (wpAny_pure (wpAny_pure h))

theorem wpN_exported {M : Model} {Q : Bool → Shared → Prop} {self : Value} (hg : A.guards = some []) (h : Q false s) : wpN M A (Builtin.Bytes.exported self) Q E s := by
  unfold Builtin.Bytes.exported
  refine wpN_bind (wpN_stack fun st hst hc => wpN_pure ?_)
  replace hg := hst _ hg
  clear hst
  refine Eq.subst (motive := fun x => Q x s) (Eq.symm ?_) h
  rw [List.any_eq_false]
  rintro ⟨c, p⟩ hx
  have k := hc _ hx
  have ng : c.isGuard = false := by
    cases q : c.isGuard with
    | false => rfl
    | true =>
      exfalso
      have : c ∈ guardsOf st := by
        clear k hc
        induction st with
        | nil => cases hx
        | cons y st ih =>
          obtain ⟨c', p'⟩ := y
          rw [guardsOf_cons]
          rcases List.mem_cons.mp hx with e | hx
          · cases e
            exact List.mem_append_left _ (by simp [Code.guards, q])
          · exact List.mem_append_right _ (ih (by rw [guardsOf_cons] at hg; exact (List.append_eq_nil_iff.mp hg).2) hx)
      rw [hg] at this
      cases this
  split <;> first
    | (rename_i heq; obtain ⟨rfl, -⟩ := Prod.mk.inj heq; have k' : (!Builtin.Bytes.decodersThatHold.contains _) = true := k; simp only [Bool.not_eq_true'] at k'; rw [k', Bool.and_false]; exact Bool.false_ne_true)
    | (rename_i heq; obtain ⟨rfl, -⟩ := Prod.mk.inj heq; exfalso; revert ng; simp [Code.isGuard, guardIds]; done)
    | exact Bool.false_ne_true

theorem wpN_of_eq {α β : Type} {m : Sem α} {a : α} {f : α → Sem β} {Q : β → Shared → Prop} (e : m = pure a) (h : wpN (model prog w) A (f a) Q E s) : wpN (model prog w) A (m >>= f) Q E s :=
  wpN_bind (wpN_of (wpAny_of_eq e h))
theorem codeN_builtin {R : Result → Shared → Prop} {id : String} {args : Args} {bt : Builtin} (ok : okCode (.builtin id args) = true) (hb : entryFor table id = some bt)
    (h : wpN (model prog w) (A.under (.builtin id args)) (bt args)
      (fun fin s' => match fin with | .done f => R (.ok f) s' | .again c' => c'.quiet = true ∧ codeN (model prog w) A c' R s') (fun e s' => R (.error e) s') s) :
    codeN (model prog w) A (.builtin id args) R s := by
  refine codeN_of_tree ok ?_
  show wpN _ _ (match entryFor table id with | some b => b args | none => unsupported ((withoutEnding? id "#data").getD id)) _ _ s
  rw [hb]; exact h
theorem codeN_call_builtin {R : Result → Shared → Prop} {id : String} {args : Args} {bt : Builtin} (ok : okCode (.builtin id args) = true) (hq : plainId id = true) (hb : entryFor table id = some bt)
    (h : wpAny (model prog w) A.in1 (checkBuiltinCall id args) (fun _ s₁ => wpN (model prog w) A.in1 (bt args)
      (fun fin s' => match fin with | .done f => R (.ok f) s' | .again c' => c'.quiet = true ∧ codeN (model prog w) A c' R s') (fun e s' => R (.error e) s') s₁)
      (fun e s' => R (.error e) s') s) : codeN (model prog w) A (.call (.builtin id) args) R s := by
  refine codeN_of_tree rfl (wpN_of ?_)
  show wpAny _ A.in1 (do checkBuiltinCall id args; again (.builtin id args)) _ _ s
  refine wpAny_bind (wpAny_mono h (fun _ s₁ h₁ => wpAny_pure (And.intro (plainId_quiet hq args) (codeN_builtin ok hb ?_))) fun _ _ h' => h')
  rw [Around.under_plainId hq args]
  exact h₁
theorem wpAny_updateBa {f : Array UInt8 → Array UInt8} {Q : Unit → Shared → Prop} {b₀ : Array UInt8} (ho : s.heap.get? a = some (baObj b₀)) (hz : (f b₀).size ≤ 1000000)
    (h : Q () { s with heap := s.heap.update a (Obj.mapBytearray f) }) : wpAny (model prog w) A (updateBytearray a f) Q E s := by
  unfold updateBytearray
  refine wpAny_bind (wpAny_load ho ?_)
  refine wpAny_bind (wpAny_update ho ?_)
  refine wpAny_lookBehind (o := baObj (f b₀)) (Heap.get?_update_self _ ho rfl) ?_ h
  show (if (f b₀).size > sizeLine then _ else _) = _
  rw [if_neg (by rw [sizeLine_eq]; (first | lia | omega))]
theorem ok_typeCall (args : Args) : okCode (.builtin "type.__call__" args) = true := by show (!Builtin.Bytes.decodersThatHold.contains "type.__call__") = true; decide +kernel
theorem ok_baInit (args : Args) : okCode (.builtin "bytearray.__init__" args) = true := by show (!Builtin.Bytes.decodersThatHold.contains "bytearray.__init__") = true; decide +kernel
theorem wpN_if_false {α : Type} {c : Bool} {x y : Sem α} {Q : α → Shared → Prop} (hc : c = false) (h : wpN (model prog w) A y Q E s) : wpN (model prog w) A (if c = true then x else y) Q E s := by subst hc; exact h
theorem ba_init {Q : Value → Shared → Prop} {t : Tok} {E' : Value → Shared → Prop} (ho : s.heap.get? a = some (baObj #[])) (hg : A.guards = some []) (hfit : b.size ≤ 1000000)
    (h : ∀ h' : Heap, h'.get? a = some (baObj b) → (∀ c o, c ≠ a → s.heap.get? c = some o → h'.get? c = some o) → Q .none { s with heap := h' }) :
    wpN (model prog w) A (Builtin.«bytearray.__init__» ⟨[.ref a, .bytes b t], []⟩)
      (fun fin s' => match fin with | .done f => wants Q E (.ok f) s' | .again _ => False) E' s := by
  have hT := ba_type ho
  unfold Builtin.«bytearray.__init__»
  refine wpN_bind (wpN_of (ba_ownRelease ho ?_))
  refine wpN_if_false rfl ?_
  refine wpN_of_eq (FA.bind_init _) ?_
  dsimp only
  refine wpN_of_eq (m := Builtin.Bytes.checkCodecArg _ _ _ none) (a := ()) rfl ?_
  refine wpN_of_eq (m := Builtin.Bytes.checkCodecArg _ _ _ none) (a := ()) rfl ?_
  refine wpN_bind (wpN_mono (Q := fun r s' => r = false ∧ s' = s) (E := fun _ _ => False) ?_ ?_ fun _ _ x => x.elim)
  · refine wpN_bind (wpN_exported hg (wpN_of ?_))
    show wpAny _ _ (Builtin.Bytes.exportsOf (.ref a) >>= fun n => pure (decide (n > 0))) _ _ _
    refine wpAny_bind ?_
    show wpAny _ _ (load a >>= _) _ _ _
    refine wpAny_bind (wpAny_load ho ?_)
    exact wpAny_pure (wpAny_pure ⟨rfl, rfl⟩)
  rintro _ _ ⟨rfl, rfl⟩
  refine wpN_if_false rfl (wpN_of ?_)
  refine wpAny_bind (m := updateBytearray a _) (wpAny_updateBa ho (Nat.zero_le _) ?_)
  refine wpAny_bind (wpAny_of_eq (a := none) (show asStr? (.bytes b t) = pure none from rfl) ?_)
  refine bm_if_false rfl ?_
  refine wpAny_bind (wpAny_of_eq (a := ()) rfl ?_)
  refine wpAny_bind (wpAny_specialOf (PySem.W.typeIs_bytes _ _ _) FA.by_noIndex ?_)
  refine bm_if_false rfl ?_
  refine wpAny_bind (by_buffer ?_)
  dsimp only
  refine wpAny_bind (wpAny_rule ?_)
  refine wpAny_bind (m := updateBytearray a _) (wpAny_updateBa (b₀ := #[]) (Heap.get?_update_self _ ho rfl) hfit ?_)
  refine wpAny_pure (h _ (Heap.get?_update_self _ (Heap.get?_update_self _ ho rfl) rfl) fun c o n e => ?_)
  exact Heap.get?_update_of_ne _ (Ne.symm n) (Heap.get?_update_of_ne _ (Ne.symm n) e)
theorem ba_make {Q : Value → Shared → Prop} {t : Tok} (hg : A.guards = some []) (hfit : b.size ≤ 1000000)
    (h : ∀ h' : Heap, h'.get? s.heap.objs.size = some (baObj b) → (∀ c o, s.heap.get? c = some o → h'.get? c = some o) → Q (.ref s.heap.objs.size) { s with heap := h' }) :
    wpN (model prog w) A (call (.type "bytearray") [.bytes b t]) Q E s := by
  obtain ⟨c, tl, hmro⟩ := FA.called.mro
  refine wpN_call (codeN_of_tree rfl (wpN_of ?_))
  show wpAny _ _ (callAny (.type "bytearray") _) _ _ _
  refine wpAny_pure ⟨Code.quiet_builtin _ (by decide +kernel), codeN_builtin (ok_typeCall _) F.entry_type_call ?_⟩
  rw [Around.under_plain (weight_type_call_type "bytearray" _ []) rfl]
  unfold Builtin.«type.__call__»
  dsimp only
  refine wpN_if_false FA.called.notType ?_
  refine wpN_if_false FA.called.canCreate ?_
  refine wpN_of_eq (FA.typeCall _) ?_
  refine wpN_of_eq hmro ?_
  refine wpN_if_false rfl ?_
  refine wpN_of_eq FA.called.made ?_
  dsimp only
  refine wpN_of_eq (a := .builtin "bytearray.__new__") rfl ?_
  refine wpN_bind (wpN_holding (wpN_of (wpAny_call (codeAny_mono (code_ba_new _ (Q₁ := fun v s' => v = .ref s.heap.objs.size ∧ s' = { s with heap := s.heap.push (baObj #[]) }) (E := fun _ _ => False) ⟨rfl, rfl⟩) fun r s₁ hr => ?_))))
  cases r with
  | error e => exact hr.elim
  | ok fl =>
    cases fl with
    | ret obj =>
      obtain ⟨rfl, rfl⟩ := hr
      have ho : (s.heap.push (baObj #[])).get? s.heap.objs.size = some (baObj #[]) := by heap_get
      have hT := ba_type (s := { s with heap := s.heap.push (baObj #[]) }) ho
      refine wpN_bind (wpN_of (wpAny_isInstance hT FA.sub_self ?_))
      refine wpN_if_false rfl ?_
      refine wpN_bind (wpN_holding ?_)
      unfold callSpecial?
      refine wpN_bind (wpN_of (wpAny_specialOf hT FA.slot_init.lookup ?_))
      dsimp only
      refine wpN_holding (wpN_of_eq (FA.slot_init.bind _) ?_)
      dsimp only
      refine wpN_bind (wpN_call (codeN_call_builtin (ok_baInit _) FA.slot_init.plain FA.entry_init (FA.slot_init.check _ _ _ _ _ _ _ _ hT (FA.args_init _ _) ?_)))
      refine wpN_mono (ba_init (Q := fun r s' => r = .none ∧ ∃ h' : Heap, h'.get? s.heap.objs.size = some (baObj b) ∧ (∀ c o, c ≠ s.heap.objs.size → (s.heap.push (baObj #[])).get? c = some o → h'.get? c = some o) ∧ s' = { s with heap := h' })
        (E := fun _ _ => False) (E' := fun _ _ => False) ho hg hfit fun h' e1 e2 => ⟨rfl, h', e1, e2, rfl⟩) (fun fin s' hf => ?_) fun _ _ x => x.elim
      cases fin with
      | again c => exact hf.elim
      | done f =>
        cases f with
        | ret r =>
          obtain ⟨rfl, h', e1, e2, rfl⟩ := hf
          refine wpN_pure (wpN_pure ?_)
          exact h h' e1 fun c o e => e2 c o (Nat.ne_of_lt (Heap.lt_size e)) (Heap.get?_push_of_some _ e)
        | _ => exact hf.elim
    | _ => exact hr.elim
end
end Mine
end
section
open PySem PySem.W PySem.Spec PySem.Calls PyProof.Rows
namespace Mine
set_option maxRecDepth 100000
set_option maxHeartbeats 1000000
namespace FJ
theorem slot : Slot "bytes" "join" "bytes.join" :=
  .of (owner := "bytes") (n := "join") (by rw [typeLookup_type, builtinLookup_eq_fast]; kernel_rfl) (by decide +kernel) (by decide +kernel) (by decide +kernel)
    (by first | exact .inl (by decide +kernel) | exact .inr (by decide +kernel)) (by rw [isSubtype_type]; kernel_rfl)
theorem entry : entryFor table "bytes.join" = some Builtin.«bytes.join» := entryFor_of_tree (by kernel_rfl)
theorem args (a b : Value) : argsOk "bytes.join" ⟨[a, b], []⟩ := by
  unfold argsOk; rw [signature?_of (id := "bytes.join") (n := ['n', 'i', 'o', 'j']) (o := ['s', 'e', 't', 'y', 'b']) (by kernel_rfl) FB.owner_bytes]; kernel_rfl
end FJ
section
variable {prog : Program} {w : World} {A : Around} {E : Value → Shared → Prop} {s : Shared}
theorem own_bytes {b : Array UInt8} {t : Tok} {α : Type} {x : Sem α} {Q : α → Shared → Prop} {id : String} (h : wpAny (model prog w) A x Q E s) :
    wpAny (model prog w) A (do
      if let some (.builtin _) ← specialOf (.bytes b t) "__buffer__" then
        if !(← Builtin.Bytes.slotIsOwn (.bytes b t) "__buffer__") then unsupported s!"{id}:a-built-in-that-is-not-its-types-own-as-__buffer__"
      x) Q E s := by
  have hT : s.TypeIs (.bytes b t) "bytes" := PySem.W.typeIs_bytes _ _ _
  refine wpAny_bind (wpAny_specialOf hT FA.by_buffer ?_)
  dsimp only
  unfold Builtin.Bytes.slotIsOwn
  refine wpAny_bind (wpAny_bind (wpAny_specialOf hT FA.by_buffer ?_))
  dsimp only
  refine bm_if_false (by decide +kernel) ?_
  rw [show String.dropRight "bytes.__buffer__" (String.length "__buffer__" + 1) = "bytes" by decide +kernel]
  refine wpAny_isInstance hT FA.by_sub ?_
  exact bm_if_false rfl h
theorem take_bytes {b : Array UInt8} {t : Tok} {id : String} {Q : Option (Array UInt8 × Option Value) → Shared → Prop} (h : Q (some (b, none)) s) : wpAny (model prog w) A (Builtin.Bytes.takeBuffer? id (.bytes b t) 0) Q E s := by
  have hT : s.TypeIs (.bytes b t) "bytes" := PySem.W.typeIs_bytes _ _ _
  unfold Builtin.Bytes.takeBuffer?
  refine own_bytes ?_
  refine wpAny_bind (wpAny_specialOf hT FA.by_buffer ?_)
  (try dsimp only)
  refine wpAny_bind ?_
  unfold Builtin.Bytes.buffer?
  refine own_bytes ?_
  refine wpAny_bind (wpAny_specialOf hT FA.by_buffer ?_)
  (try dsimp only)
  refine wpAny_bind (by_ownRelease ?_)
  refine bm_if_false rfl ?_
  exact wpAny_bind (wpAny_pure (wpAny_pure (wpAny_pure h)))
abbrev bVals (l : List (Array UInt8 × Tok)) : List Value := l.map fun x => .bytes x.1 x.2
abbrev bTaken (l : List (Array UInt8 × Tok)) : List (Value × Option Value) := l.map fun x => (.bytes x.1 x.2, none)
theorem let_go {l : List (Array UInt8 × Tok)} {keep : List Value} {Q : Unit → Shared → Prop} (h : Q () s) : wpAny (model prog w) A (Builtin.Bytes.joinLetGo (bTaken l) keep) Q E s := by
  induction l with
  | nil => exact wpAny_pure h
  | cons x r ih =>
    show wpAny _ _ (letGo [.bytes x.1 x.2] _ >>= fun _ => Builtin.Bytes.joinLetGo (bTaken r) keep) _ _ _
    refine wpAny_bind ?_
    unfold letGo
    refine wpAny_bind (wpAny_holding (wpAny_point ?_))
    exact wpAny_pure ih
theorem any_heap (l : List (Array UInt8 × Tok)) : (bTaken l).any (fun x => x.1.onHeap) = false := by
  induction l with
  | nil => rfl
  | cons x r ih => simp only [bTaken, List.map_cons, List.any_cons]; rw [show ((r.map fun x => ((Value.bytes x.1 x.2, none) : Value × Option Value)).any fun x => x.1.onHeap) = false from ih]; rfl
theorem joined_go : ∀ (ps : List (Array UInt8)) (k : Nat) (acc : Array UInt8),
    (ps.zipIdx k).foldl (fun out (x : Array UInt8 × Nat) => (if x.2 > 0 then out ++ (#[] : Array UInt8) else out) ++ x.1) acc = acc ++ ((ps.map (·.toList)).flatten).toArray
  | [], k, acc => by simp
  | p :: r, k, acc => by
    rw [List.zipIdx_cons, List.foldl_cons, joined_go r]
    apply Array.ext'
    simp
theorem joined_nil (ps : List (Array UInt8)) : Builtin.Bytes.joined #[] ps = ((ps.map (·.toList)).flatten).toArray := by
  have := joined_go ps 0 #[]
  rw [Array.empty_append] at this
  exact this
theorem sizes_sum : ∀ (ps : List (Array UInt8)) (n : Nat), ps.foldl (· + ·.size) n = n + ((ps.map (·.toList)).flatten).length
  | [], n => by simp
  | p :: r, n => by
    rw [List.foldl_cons, sizes_sum r]
    simp
    (first | lia | omega)
theorem bytes_join {D : Addr} {l : List (Array UInt8 × Tok)} {t0 : Tok} {Q : Value → Shared → Prop} (hl : s.heap.IsList D (bVals l).toArray) (h2 : 2 ≤ l.length) (hsz : ((l.map (·.1.toList)).flatten).length ≤ 1000000)
    (h : ∀ t k, Q (.bytes ((l.map (·.1.toList)).flatten).toArray t) { s with toks := k }) : wpAny (model prog w) A (call (.builtin "bytes.join") [.bytes #[] t0, .ref D]) Q E s := by
  obtain ⟨o, ho, hc, n, hd⟩ := hl
  have efl : List.map ((fun x => x.toList) ∘ fun (x : Array UInt8 × Tok) => x.1) l = l.map (fun x => x.1.toList) := rfl
  have hTD : s.TypeIs (.ref D) "list" := ⟨o, ho, hc⟩
  refine wpAny_call (codeAny_call_builtin FJ.slot.plain FJ.entry (FJ.slot.check _ _ _ _ _ _ _ _ (PySem.W.typeIs_bytes _ _ _) (FJ.args _ _) ?_))
  unfold Builtin.«bytes.join» Builtin.Bytes.joinM
  refine wpAny_bind (wpAny_of_eq (a := (.bytes #[] t0, .ref D)) rfl ?_)
  dsimp only
  rw [if_pos (by rfl)]
  refine wpAny_bind ?_
  unfold Builtin.Bytes.joinItems
  refine wpAny_bind (wpAny_typeOf hTD ?_)
  refine bm_if_true (by decide) ?_
  refine wpAny_pure ?_
  have hsq : ∀ {A' : Around} {E' : Value → Shared → Prop} {Q' : Option (Array Value) → Shared → Prop}, Q' (some (bVals l).toArray) s → wpAny (model prog w) A' (seqItems? (.ref D)) Q' E' s := fun hq => wpAny_seqItems ho hd hq
  refine wpAny_bind (hsq ?_)
  dsimp only
  rw [if_pos (by rfl)]
  have hsz2 : (bVals l).toArray.size = l.length := by simp [bVals]
  have go : ∀ {α : Type} {xs : Array Value} {f : Value → Sem α} {g : Sem α} {Q' : α → Shared → Prop} {E' : Value → Shared → Prop} {A' : Around}, xs.size ≠ 1 → wpAny (model prog w) A' g Q' E' s → wpAny (model prog w) A' (match xs with | #[x] => f x | _ => g) Q' E' s := by
    intro α xs f g Q' E' A' hne hg
    rcases xs with ⟨_ | ⟨a, _ | ⟨b, r⟩⟩⟩
    · exact hg
    · exact absurd rfl hne
    · exact hg
  refine go (by (first | lia | omega)) ?_
  refine wpAny_bind ?_
  rw [KPc.range_list]
  refine wpAny_forIn_list _ (fun xs (b : Array (Array UInt8) × List (Value × Option Value)) s' => s' = s ∧ ∃ pre suf, l = pre ++ suf ∧ xs = List.range' pre.length suf.length ∧ b = ((pre.map (·.1)).toArray, bTaken pre)) _ ?_ ?_ _ _ ⟨rfl, [], l, rfl, by rw [hsz2]; rfl, rfl⟩
  · rintro x rest b s' ⟨rfl, pre, suf, hl, hxs, rfl⟩
    obtain ⟨y, suf, rfl⟩ : ∃ y r, suf = y :: r := by
      cases suf with
      | nil => simp at hxs
      | cons y r => exact ⟨y, r, rfl⟩
    rw [List.length_cons, List.range'_succ] at hxs
    obtain ⟨rfl, rfl⟩ := List.cons.inj hxs
    refine wpAny_bind (hsq ?_)
    dsimp only
    rw [if_neg (by rw [any_heap]; decide)]
    have hget : (bVals l).toArray.getD pre.length .none = .bytes y.1 y.2 := by
      rw [hl]
      simp [bVals]
    rw [hget]
    refine wpAny_bind (wpAny_holding ?_)
    unfold Builtin.Bytes.takeBufferQuiet?
    refine wpAny_bind (wpAny_attempt (take_bytes ?_))
    refine wpAny_pure ?_
    dsimp only
    refine wpAny_bind (hsq ?_)
    dsimp only
    rw [if_neg (by simp)]
    refine wpAny_pure ⟨rfl, pre ++ [y], suf, by rw [hl]; simp, by simp, ?_⟩
    simp [bTaken]
  · rintro b s' ⟨rfl, pre, suf, hl, hxs, rfl⟩
    obtain rfl : suf = [] := by
      cases suf with
      | nil => rfl
      | cons y r => simp [List.range'_succ] at hxs
    rw [List.append_nil] at hl
    subst hl
    dsimp only
    refine wpAny_bind (m := Builtin.Bytes.payload _) ?_
    refine wpAny_bind (wpAny_pure ?_)
    refine wpAny_pure ?_
    refine bm_if_false ?_ ?_
    · unfold Builtin.Bytes.tooLong
      rw [sizeLine_eq]
      simp only [decide_eq_false_iff_not]
      rw [List.foldl_toArray, sizes_sum, List.map_map, efl]
      have : (#[] : Array UInt8).size = 0 := rfl
      rw [this]
      (first | lia | omega)
    refine wpAny_bind ?_
    show wpAny _ _ (mkBytes (Builtin.Bytes.joined #[] (l.map (·.1)))) _ _ _
    rw [joined_nil, List.map_map, efl]
    refine wpAny_mkBytes ?_ ?_
    · refine wpAny_bind (wpAny_holding (wpAny_point ?_))
      refine wpAny_bind (let_go ?_)
      exact wpAny_pure (h _ _)
    · rw [sizeLine_eq, List.size_toArray]; (first | lia | omega)
theorem type_join : typeOf (.builtin "bytes.join") = pure (.type "method_descriptor") := by kernel_rfl
theorem join_method {t : Tok} {pl : Sem Bool} {Q : Value × List Value → Shared → Prop} (h : Q (.builtin "bytes.join", [.bytes #[] t]) s) : wpAny (model prog w) A (getMethod (.bytes #[] t) "join" pl) Q E s :=
  KBd.method_of (.bytes #[] t) (PySem.W.typeIs_bytes _ _ _) FJ.slot type_join KBd.noRef h
end
end Mine
end
section
open PySem PySem.W PySem.Spec PySem.Calls PyProof.Rows
namespace Mine
set_option maxRecDepth 100000
set_option maxHeartbeats 400000
/-- bytes as a text -/
def latin (b : List UInt8) : List Str := b.map fun c => ⟨#[c.toNat]⟩
theorem comp_chr {prog : Program} {w : World} {A : Around} {Q E : Value → Shared → Prop} {s : Shared} {K : Frag} {g : Heap} {L a : Addr} {m mg mb : Str → Option Value} {news : Led} {p : Program} {loose : List Str} {mean : ExcName → Option Value} {cn : Str} {cs : Scope} {ccd : Value}
    {b : Array UInt8} {tb : Tok} {px p1 p2 p3 p4 p5 : Pos} {scope : Scope}
    (hsc : scope = { kind := .function, names := [(Str.ofString ".0", .local), (Str.ofString "octet", .local), (Str.ofString "chr", .globalImplicit)], isGenerator := false, isCoroutine := false })
    (hh : A.handled = none) (F : Fr g L s.heap m) (N : News g L s.heap news) (X : K.In g) (T : Top p loose mean mg mb g) (e : nsIn K mainGlobals (Str.ofString "chr") = some none)
    (hb : b.size ≤ 1000) (hk : cs.kind = .function)
    (hit : ∀ Q', Q' (.bytes b tb) s → wpAny (model prog w) A (eval (.Name (Str.ofString "octets") p4) (envOf cn cs L a ccd)) Q' E s)
    (h : ∀ D o l h' tk, o.cls = .type "list" → (∃ n, o.data = .seq (strValues l).toArray n) → l.map (·.1) = latin b.toList → Fr g L h' m → News g L h' ((D, o) :: news) → Q (.ref D) { s with heap := h', toks := tk }) :
    wpAny (model prog w) A (eval (.ListComp (.Call (.Name (Str.ofString "chr") p1) [.Name (Str.ofString "octet") p2] [] p3) [⟨.Name (Str.ofString "octet") px, .Name (Str.ofString "octets") p4, [], 0⟩] scope p5) (envOf cn cs L a ccd)) Q E s := by
  subst hsc
  refine wpAny_ListComp_walk (fun _ => true) (fun v y => ∃ (c : UInt8) (u u' : Tok), v = .int (c.toNat : Int) u ∧ y = .str ⟨#[c.toNat]⟩ u') (by decide) (by decide) rfl (by decide) (by decide) (hit _ ?_) 
  refine KBw.pyIter_bytes ?_
  have F₁ := F.push { cls := .type "bytes_iterator", data := .fields #[.bytes b tb, .int 0 0] }
  refine ⟨s.heap.objs.size, [s.heap.objs.size], [s.heap.objs.size], b.size, _, _, rfl, KBw.walks hh s.heap.objs.size b tb, by rw [sizeLine_eq]; (first | lia | omega), ⟨_, Heap.get?_push_size _ rfl, rfl, rfl⟩, ?_, ⟨?_, ?_⟩, ?_⟩
  · intro b' hb'
    rw [List.mem_singleton.mp hb']
    show _ < (Heap.push _ _).objs.size
    rw [Heap.size_push]
    exact Nat.lt_succ_self _
  · intro C i v s₃ m₃ E' hP hn hx hk' htk
    exact wpAny_pure ⟨rfl, s₃.heap, s₃.toks, rfl, fun _ _ e => e⟩
  · intro C i v s₃ m₃ E' hP _ hn hx hk' htk
    obtain ⟨c, u, hc, rfl⟩ := hP
    have kg : ∀ b o, g.get? b = some o → s₃.heap.get? b = some o := fun b' o e' => by
      refine hk' b' o ?_ (F₁.keep b' o e')
      intro q
      have h1 := Heap.lt_size (F.keep b' o e')
      rw [List.mem_singleton.mp q] at h1
      exact Nat.lt_irrefl _ h1
    refine Call_ (Name_function_global rfl rfl (loadGlobal_builtin (mg := mg) (mb := mb) (v := .builtin "chr") (T.g.keeps kg) (mg_none_of X T.g e) (T.b.keeps kg) ((T.builtins (Str.ofString "chr") (by decide)).trans (by boot_by_name)) ?_))
    refine PyProof.Rows.callWith_builtin1 (spliced_more ?_)
    refine wpAny_Name (wpAny_loadName_local rfl rfl hn hx ?_) (by decide)
    have hcl : (c.toNat : Int) ≤ 1114111 := by have := c.toNat_lt; (first | lia | omega)
    refine spliced_none ?_
    refine chr_of_range (Int.natCast_nonneg _) hcl ?_
    exact ⟨⟨c, u, _, rfl, rfl⟩, s₃.heap, _, rfl, fun _ _ e => e⟩
  · intro D h' tk ys vs hD hl hpl hlen hP hF hk'
    obtain ⟨o, ho, hc, n, hd⟩ := hl
    have off : ∀ b o, s.heap.get? b = some o → b ∉ [s.heap.objs.size] := fun b' o' e' q => by
      have h1 := Heap.lt_size e'
      rw [List.mem_singleton.mp q] at h1
      exact Nat.lt_irrefl _ h1
    have hk2 : ∀ b o, s.heap.get? b = some o → h'.get? b = some o := fun b' o' e' => hk' b' o' (off b' o' e') (Heap.get?_push_of_some _ e')
    obtain ⟨l, hl1, hl2⟩ : ∃ l : List (Str × Tok), ys.toList = strValues l ∧ l.map (·.1) = latin b.toList := by
      rw [List.filter_eq_self.mpr (fun _ _ => rfl)] at hF
      have key : ∀ (vs ys : List Value) (bs : List UInt8), Paired (fun v y => ∃ (c : UInt8) (u u' : Tok), v = .int (c.toNat : Int) u ∧ y = .str ⟨#[c.toNat]⟩ u') vs ys → vs.length = bs.length →
          (∀ (j : Nat) (v : Value), vs[j]? = some v → ∃ (c : UInt8) (u : Tok), bs[j]? = some c ∧ v = Value.int (c.toNat : Int) u) → ∃ l : List (Str × Tok), ys = strValues l ∧ l.map (·.1) = latin bs := by
        intro vs ys bs hF
        induction hF generalizing bs with
        | nil =>
          intro hl _
          cases bs with
          | nil => exact ⟨[], rfl, rfl⟩
          | cons _ _ => simp at hl
        | cons hab hrest ih =>
          intro hl hP
          cases bs with
          | nil => simp at hl
          | cons c₀ bs =>
            obtain ⟨l, e1, e2⟩ := ih bs (by simpa using hl) (fun j v hj => hP (j + 1) v (by simpa using hj))
            obtain ⟨c, u, u', ha, rfl⟩ := hab
            obtain ⟨c1, u1, hc1, hv1⟩ := hP 0 _ rfl
            simp at hc1
            subst hc1
            rw [ha] at hv1
            injection hv1 with hv1 _
            have hcc : c.toNat = c₀.toNat := by (first | lia | omega)
            exact ⟨(⟨#[c.toNat]⟩, u') :: l, by simp [strValues, e1], by simp only [List.map_cons, latin, hcc]; rw [e2]; rfl⟩
      exact key vs ys.toList b.toList hF (by rw [hlen]; simp) (fun j v hj => by
        obtain ⟨c, u, h1, h2⟩ := hP j v hj
        exact ⟨c, u, by simpa using h1, h2⟩)
    have hys : ys = (strValues l).toArray := by rw [← hl1]
    subst hys
    have fr := new_of F ho (a := D) (by
      cases q : s.heap.get? D with
      | none => rfl
      | some o' => rw [show (s.heap.push { cls := .type "bytes_iterator", data := .fields #[.bytes b tb, .int 0 0] }).get? D = some o' from Heap.get?_push_of_some _ q] at hD; cases hD)
    exact h D o l h' tk hc ⟨n, hd⟩ hl2 (F.keeps hk2) (News.cons (fun q hq => ⟨hk2 _ _ (N q hq).1, (N q hq).2⟩) ho fr.2.1 fr.2.2)
end Mine
end
section
open PySem PySem.W PySem.Spec PySem.Calls PyProof.Rows
namespace Mine
set_option maxRecDepth 100000
set_option maxHeartbeats 8000000
abbrev u8 (i : Int) : UInt8 := Nat.toUInt8 (Int.toNat i)
def octAll (x : Int) : List UInt8 := [u8 (x.fmod 256), u8 0, u8 ((x.fdiv 256).fmod 256), u8 10, u8 ((x.fdiv 65536).fmod 256)]
/-- the octets of a number -/
def octs (x : Int) : List UInt8 := (octAll x).take (x.fmod 6).toNat
/-- the item that is due -/
def ItemVal (root x : Int) (v : Value) : Prop :=
  (root = 0 ∧ ∃ t, v = .int (x.fmod 256) t) ∨ (root = 1 ∧ ∃ t, v = .bytes (octs x).toArray t) ∨ (root = 2 ∧ ∃ t, v = .str (Txt.join (Str.ofString "") (latin (octs x))) t)
def itemOct (root x : Int) : List UInt8 := if root = 0 then [u8 (x.fmod 256)] else u8 (octs x).length :: octs x
theorem octs_le (x : Int) : (octs x).length ≤ 5 := by
  unfold octs
  rw [List.length_take]
  exact Nat.min_le_right _ _
theorem slice_take {prog : Program} {w : World} {A : Around} {E : Value → Shared → Prop} {s : Shared} {h₀ : Heap} {L l : Addr} {m : Str → Option Value} {news : Led} {value slice : PySem.Expr} {Q : Value → Shared → Prop} {vs : List Value} {c : Nat} {n : Int} {tn : Tok}
    (F : Fr h₀ L s.heap m) (N : News h₀ L s.heap news) (hn : 0 ≤ n) (hm : (l, W.listOf vs.toArray c) ∈ news) (hz : vs.length ≤ 100)
    (h : ∀ D h', Fr h₀ L h' m → News h₀ L h' ((D, W.listOf (vs.take n.toNat).toArray 0) :: news) → Q (.ref D) { s with heap := h' })
    (hs : subscripted slice false (.ref l) (.ref s.heap.objs.size) = operate [.ref s.heap.objs.size, .ref l] (getItem (.ref l) (.ref s.heap.objs.size))) (ht : ∀ r, letTemporaryGo value (.ref l) r = pure ()) :
    wpAny (model prog w) A (subscriptTail value slice (.ref l) (.ref s.heap.objs.size)) Q E { s with heap := s.heap.push { cls := .type "slice", data := .fields #[.none, .int n tn, .none] } } := by
  refine kms_slice_lit F N ⟨_, (N _ hm).1, rfl, _, rfl⟩ .none (.int _ _) (zs := vs.take n.toNat) ?_ (fun D h' F' N' _ => h D h' F' N') hs ht (by rw [sizeLine_eq, List.size_toArray]; (first | lia | omega))
  rw [List.toList_toArray]
  unfold kms_pick
  simp only [kms_lo, kms_hi, if_neg (Int.not_lt.mpr hn), List.drop_zero, Nat.sub_zero]
  rw [List.take_eq_take_iff]
  (first | lia | omega)
theorem join_latin : ∀ (l : List UInt8), l.length ≤ 5 → JoinOk (Str.ofString "") (latin l) = true := by
  intro l hl
  have h0 : (Str.ofString "").length = 0 := by decide +kernel
  have e : ∀ (l : List UInt8) (n : Nat), (latin l).foldl (· + ·.length + (Str.ofString "").length) n = n + l.length := by
    intro l
    induction l with
    | nil => intro n; rfl
    | cons c r ih =>
      intro n
      show (latin r).foldl _ (n + 1 + (Str.ofString "").length) = _
      rw [ih, h0, List.length_cons]
      (first | lia | omega)
  unfold JoinOk Builtin.Str.tooLong
  rw [List.foldl_toArray, e, sizeLine_eq]
  simp only [Bool.not_eq_true', decide_eq_false_iff_not]
  (first | lia | omega)
theorem law_item (w : World) (root x : Int) (t1 t2 : Tok) (hr : root = 0 ∨ root = 1 ∨ root = 2) :
    Ctr w (kk.heap_1 w.params) (.ref 681) [.int root t1, .int x t2] [] (fun _ => True)
      (fun h v h' => ∃ a val ob t, v = .ref a ∧ h.get? a = none ∧ h'.get? a = some { cls := .type "tuple", data := .seq #[val, .bytes ob t] } ∧ ItemVal root x val ∧ ob = (itemOct root x).toArray) 3 30 := by
  have : Fill PySem.Challenge.rw_in0200_01 kk.heap_1 := by k_fill; trivial
  clear this
  have hn := Int.fmod_nonneg_of_pos x (show (0 : Int) < 6 by decide)
  refine ctr_enter [(Str.ofString "root", .int root t1), (Str.ofString "x", .int x t2)] (by k_is) (by k_is) (fun s X => BindsTo.of_eq rfl) (locs rfl) ?_
  intro dp un gd fr base g p loose mean mg mb s L' h₁ tk st B' X' T' hH hpre hdp hun hg F' N' hlt
  (repeat' ((fail_if_success (with_reducible show wpAny _ _ (subscriptTail (Expr.List _ _) _ _ _) _ _ _)); first | (k_unfold; (try dsimp only)) | (k_end; kc_close) | walk1 | (dsimp only; walk1) | (leave1; (try dsimp only))))
  rename Fr _ _ _ _ => F1; rename News _ _ _ _ => N1
  refine kba_turn (value' := PySem.Expr.Name (Str.ofString "_") ⟨0, 0, 0, 0⟩) (fun _ => rfl) ?_
  refine slice_take (s := ⟨_, _, _, _, _⟩) F1 N1 hn (.head _) (by simp only [List.length_cons, List.length_nil]; (first | lia | omega)) ?_ (by with_unfolding_all rfl) (fun _ => rfl)
  intro D2 h2 F2 N2
  clear F1 N1
  dsimp only
  (repeat' ((fail_if_success (with_reducible show wpAny _ _ (call (Value.type "bytes") _) _ _ _)); first | (k_unfold; (try dsimp only)) | (k_end; kc_close) | walk1 | (dsimp only; walk1) | (leave1; (try dsimp only))))
  rename Fr _ _ _ _ => F3; rename News _ _ _ _ => N3
  have hrange : ∀ n ∈ List.take (x.fmod 6).toNat [x.fmod 256, 0, (x.fdiv 256).fmod 256, 10, (x.fdiv 65536).fmod 256], 0 ≤ n ∧ n < 256 := fun n hn => by
    have hn := List.mem_of_mem_take hn
    simp only [List.mem_cons, List.not_mem_nil, or_false] at hn
    rcases hn with rfl | rfl | rfl | rfl | rfl
    · exact ⟨Int.fmod_nonneg_of_pos _ (by decide), Int.fmod_lt_of_pos _ (by decide)⟩
    · decide
    · exact ⟨Int.fmod_nonneg_of_pos _ (by decide), Int.fmod_lt_of_pos _ (by decide)⟩
    · decide
    · exact ⟨Int.fmod_nonneg_of_pos _ (by decide), Int.fmod_lt_of_pos _ (by decide)⟩
  refine bytes_K (ns := List.take (x.fmod 6).toNat [x.fmod 256, 0, (x.fdiv 256).fmod 256, 10, (x.fdiv 65536).fmod 256]) F3 N3 ⟨_, (N3 _ (.head _)).1, rfl, _, rfl⟩ (IntsAre.take (by repeat constructor) _) hrange
    (by rw [sizeLine_eq, List.length_take]; exact Nat.le_trans (Nat.min_le_right _ _) (Nat.le_of_ble_eq_true rfl)) rfl ?_
  intro h4 t4 k4 F4 N4 _
  have e4 : (List.take (x.fmod 6).toNat [x.fmod 256, 0, (x.fdiv 256).fmod 256, 10, (x.fdiv 65536).fmod 256]).map (fun n => n.toNat.toUInt8) = octs x := by
    rw [List.map_take]
    rfl
  rw [e4]
  have hol := octs_le x
  have N5 : News g L' h4 [] := News.nil
  clear F3 N3 N4 hrange e4
  generalize hoc : octs x = oc at hol ⊢
  dsimp only
  (repeat' ((fail_if_success (with_reducible show wpAny _ _ (exec (Stmt.If _ _ _ _) _) _ _ _)); first | (k_unfold; (try dsimp only)) | (k_end; kc_close) | walk1 | (dsimp only; walk1) | (leave1; (try dsimp only))))
  rename Fr _ _ _ _ => F6
  rcases hr with rfl | rfl | rfl
  · k_steps
    rename Fr _ _ _ _ => F3; rename News _ _ _ _ => N3
    exact DoneC.intro F3 ⟨_, _, _, _, rfl, none_of_stay st (N3 _ (.head _)).2.2, N3.get (.head _), .inl ⟨rfl, _, rfl⟩, rfl⟩
  · (repeat' ((fail_if_success (with_reducible show wpAny _ _ (call (Value.type "bytes") _) _ _ _)); first | (k_unfold; (try dsimp only)) | (k_end; kc_close) | walk1 | (dsimp only; walk1) | (leave1; (try dsimp only))))
    rename Fr _ _ _ _ => F8; rename News _ _ _ _ => N1
    refine bytes_K (vs := [_]) (ns := [((oc.toArray.size : Nat) : Int)]) F8 N1 ⟨_, (N1 _ (.head _)).1, rfl, _, rfl⟩ (.cons _ _ .nil) (fun n hn => by rw [List.mem_singleton.mp hn, List.size_toArray]; (first | lia | omega)) (by rw [sizeLine_eq]; exact Nat.le_of_ble_eq_true rfl) rfl ?_
    intro h9 t9 k9 F9 N9 _
    clear F8 N1
    dsimp only [List.map]
    (repeat' ((fail_if_success (with_reducible show wpAny _ _ (binaryOp Operator.Add _ _) _ _ _)); first | (k_unfold; (try dsimp only)) | (k_end; kc_close) | walk1 | (dsimp only; walk1) | (leave1; (try dsimp only))))
    refine bytes_add_K (b := [_]) (c := oc) (by rw [List.size_toArray, List.size_toArray, List.length_singleton]; (first | lia | omega)) rfl fun t10 k10 => ?_
    k_steps
    rename Fr _ _ _ _ => F3; rename News _ _ _ _ => N3
    exact DoneC.intro F3 ⟨_, _, _, _, rfl, none_of_stay st (N3 _ (.head _)).2.2, N3.get (.head _), .inr (.inl ⟨rfl, _, by rw [hoc]⟩), by simp only [itemOct, hoc]; rfl⟩
  · (repeat' ((fail_if_success (with_reducible show wpAny _ _ (eval (Expr.ListComp _ _ _ _) _) _ _ _)); first | (k_unfold; (try dsimp only)) | (k_end; kc_close) | walk1 | (dsimp only; walk1) | (leave1; (try dsimp only))))
    rename Fr _ _ _ _ => F1; rename News _ _ _ _ => N1
    refine' comp_chr ?a1 ?a2 ?a3 ?a4 ?a5 ?a6 ?a7 ?a8 ?a9 ?a10 ?_
    (case a1 => rfl)
    (case a2 => rfl)
    (case a3 => exact F1)
    (case a4 => exact N1)
    (case a5 => exact X')
    (case a6 => exact T')
    (case a7 => k_is)
    (case a9 => rfl)
    (case a10 => intro Q' hq; refine' ld ?f1 ?f2 ?f3; (case f1 => exact F1); (case f2 => rfl); (case f3 => exact hq))
    (case a8 => rw [List.size_toArray]; (first | lia | omega))
    intro D o l h' tk' hc hdat hl F2 N2
    clear F1 N1
    (repeat' ((fail_if_success (with_reducible show wpAny _ _ (call (Value.builtin "str.join") _) _ _ _)); first | (k_unfold; (try dsimp only)) | (k_end; kc_close) | walk1 | (dsimp only; walk1) | (leave1; (try dsimp only))))
    obtain ⟨n, hdat⟩ := hdat
    refine' SC.join (l := l) ?j1 hl ?j3 ?_
    (case j1 => exact ⟨o, N2.get (.head _), hc, n, hdat⟩)
    (case j3 => exact join_latin oc hol)
    intro t' k'
    (repeat' ((fail_if_success (with_reducible show wpAny _ _ (call (Value.type "bytes") _) _ _ _)); first | (k_unfold; (try dsimp only)) | (k_end; kc_close) | walk1 | (dsimp only; walk1) | (leave1; (try dsimp only))))
    rename Fr _ _ _ _ => F8; rename News _ _ _ _ => N1
    refine bytes_K (vs := [_]) (ns := [((oc.toArray.size : Nat) : Int)]) F8 N1 ⟨_, (N1 _ (.head _)).1, rfl, _, rfl⟩ (.cons _ _ .nil) (fun n hn => by rw [List.mem_singleton.mp hn, List.size_toArray]; (first | lia | omega)) (by rw [sizeLine_eq]; exact Nat.le_of_ble_eq_true rfl) rfl ?_
    intro h9 t9 k9 F9 N9 _
    clear F8 N1
    dsimp only [List.map]
    (repeat' ((fail_if_success (with_reducible show wpAny _ _ (binaryOp Operator.Add _ _) _ _ _)); first | (k_unfold; (try dsimp only)) | (k_end; kc_close) | walk1 | (dsimp only; walk1) | (leave1; (try dsimp only))))
    refine bytes_add_K (b := [_]) (c := oc) (by rw [List.size_toArray, List.size_toArray, List.length_singleton]; (first | lia | omega)) rfl fun t10 k10 => ?_
    k_steps
    rename Fr _ _ _ _ => F3; rename News _ _ _ _ => N3
    exact DoneC.intro F3 ⟨_, _, _, _, rfl, none_of_stay st (N3 _ (.head _)).2.2, N3.get (.head _), .inr (.inr ⟨rfl, _, by rw [hoc]⟩), by simp only [itemOct, hoc]; rfl⟩
end Mine
end
section
open PySem PySem.W PySem.Spec PySem.Calls PyProof.Rows
namespace Mine
set_option maxRecDepth 100000
set_option maxHeartbeats 1000000
/-- as ctr_enter, of a def whose binding makes objects -/
theorem ctr_enterG {w : World} {K : Frag} {f : Addr} {vs : List Value} {H : Led} {Pre : Heap → Prop} {Post : Heap → Value → Heap → Prop} {d u : Nat}
    {name qual : Str} {params : Arguments} {body : List Stmt} {scope : Scope} {dV kV doc pm cdv ct oc : Value} {an od : Option Addr} {osl : Array (Option Value)}
    (binds : Nat → List (Str × Value)) (more : List Obj)
    (ho : K.lookup f = some ⟨oc, od, .func (fnOf name qual params body scope dV kV doc pm an cdv ct), osl⟩) (hcd : codeIn K cdv qual = true) 
    (hbind : ∀ (A : Around) (E : Value → Shared → Prop) (Q : List (Str × Value) → Shared → Prop) (s : Shared), K.In s.heap → Q (binds s.heap.objs.size) { s with heap := more.foldl Heap.push s.heap } →
      wpAny (model PySem.Challenge.rw_in0200_01.row.prog w) A (bindArgs (fnOf name qual params body scope dV kV doc pm an cdv ct) ⟨vs, []⟩) Q E s)
    (hloc : ∀ n, ∀ y ∈ binds n, scope.names.lookup y.1 = some .local)
    (h : ∀ (dp un : Nat) (gd : Option (List Code)) (fr : List Env) (base g : Heap) (p : Program) (loose : List Str) (mean : ExcName → Option Value) (mg mb : Str → Option Value) (s : Shared) (L' : Addr) (h₁ : Heap) (tk n : Nat),
      Stay H s.heap g → Below (arr dp un gd fr) base fr g → K.In g → Top p loose mean mg mb g → (∀ p ∈ H, s.heap.get? p.1 = some p.2) → Pre s.heap → dp + d < recursionLimit → un + u < cLine →
      (∀ b o, g.get? b = some o → s.heap.get? b = some o) → s.heap.objs.size ≤ L' →
      Fr g L' h₁ (fun y => (binds n).reverse.lookup y) → News g L' h₁ H → (∀ p ∈ H, p.1 < L') →
      wpAny (model PySem.Challenge.rw_in0200_01.row.prog w) ((arr dp un gd fr).deeper (envOf qual scope L' f cdv)) (execs body (envOf qual scope L' f cdv))
        (DoneC g L' s (Post s.heap)) (fun _ _ => False) { s with heap := h₁, toks := tk })
    (hcell : ∀ x ∈ scope.names, x.2 ≠ .cell := by decide) (hco : scope.isCoroutine = false := by rfl) (hgen : scope.isGenerator = false := by rfl) (hk : scope.kind = .function := by rfl) :
    Ctr w K (.ref f) vs H Pre Post d u := by
  rintro dp un gd fr s R ⟨⟨base, B⟩, X, ⟨p, loose, mean, mg, mb, T⟩⟩ hH hpre hdp hun hret
  have keep : ∀ b o, (gOf s.heap H).get? b = some o → s.heap.get? b = some o := fun b o e => of_hideAll _ e
  have Xs : K.In s.heap := X.keeps keep
  have hroom : (arr dp un gd fr).depth < recursionLimit := Nat.lt_of_le_of_lt (Nat.le_add_right _ _) hdp
  have push : ∀ (more : List Obj) (h : Heap), (∀ b o, h.get? b = some o → (more.foldl Heap.push h).get? b = some o) ∧ h.objs.size ≤ (more.foldl Heap.push h).objs.size := by
    intro more
    induction more with
    | nil => exact fun h => ⟨fun _ _ e => e, Nat.le_refl _⟩
    | cons o more ih =>
      intro h
      have := ih (h.push o)
      exact ⟨fun b o' e => this.1 b o' (Heap.get?_push_of_some _ e), Nat.le_trans (by rw [Heap.size_push]; exact Nat.le_succ _) this.2⟩
  obtain ⟨k1, z1⟩ := push more s.heap
  refine codeAny_call_function hroom (Xs _ _ ho) rfl hco hgen rfl (codeRec_of Xs hcd) (hbind _ _ _ s Xs ?_)
  refine wpAny_newFunctionEnv hcell (hloc _) (fun h₀ hns₀ hsb₀ => ⟨((T.nolimit.keeps keep).keeps k1).fresh _ hsb₀, codeAny_func ?_⟩) hk
  have k2 : ∀ b o, s.heap.get? b = some o → h₀.get? b = some o := fun b o e => hsb₀.extBut b o (Nat.ne_of_lt (Heap.lt_size (k1 b o e))) (Heap.get?_push_of_some _ (k1 b o e))
  refine wpAny_mono (h dp un gd fr base (gOf s.heap H) p loose mean mg mb s (more.foldl Heap.push s.heap).objs.size h₀ _ _ (fun b o n e => stay_g n e) B X T hH hpre hdp hun keep z1 ⟨hns₀, fun b o e => k2 b o (keep b o e), Nat.le_trans (Nat.le_of_eq (hideAll_size _ _)) z1⟩
    (fun p hp => ⟨k2 _ _ (hH p hp), Nat.ne_of_lt (Nat.lt_of_lt_of_le (Heap.lt_size (hH p hp)) z1), hideAll_none _ (List.mem_map_of_mem hp)⟩) (fun p hp => Nat.lt_of_lt_of_le (Heap.lt_size (hH p hp)) z1)) (fun fl s' hl => ?_) fun _ _ y => y.elim
  obtain ⟨h', tk', m', rfl, F', hp⟩ := hl
  exact hret _ h' tk' (fun b o n e => F'.keep b o (stay_g n e)) hp
abbrev mdl (w : World) : Model := model PySem.Challenge.rw_in0200_01.row.prog w
theorem base413 (w : World) {h : Heap} (X : (kk.heap_1 w.params).In h) : Looks (mdl w) h (Bind.staticBase (.ref 413)) (.type "object") := Looks.of_peek X (by kernel_rfl)
theorem madeObj (w : World) {h : Heap} (X : (kk.heap_1 w.params).In h) : Looks (mdl w) h (Bind.madeBy (.type "object")) (some "object.__new__") := Looks.of_peek X (by kernel_rfl)
theorem made413 (w : World) {h : Heap} (X : (kk.heap_1 w.params).In h) : Looks (mdl w) h (Bind.madeBy (.ref 413)) none := Looks.of_peek X (by kernel_rfl)
theorem here413 (w : World) {h : Heap} (X : (kk.heap_1 w.params).In h) : Looks (mdl w) h (Bind.madeHere "object.__new__" (.ref 413)) () := Looks.of_peek X (by kernel_rfl)
theorem cls413 (w : World) {h : Heap} (X : (kk.heap_1 w.params).In h) : ∃ oc od cd sl, h.get? 413 = some ⟨oc, od, .cls cd, sl⟩ ∧ cd.abstract = false ∧ cd.hasDel = false ∧ cd.mro.isEmpty = false ∧ Looks (mdl w) h (mroOf (.ref 413)) cd.mro := by
  have : Fill PySem.Challenge.rw_in0200_01 kk.heap_1 := by k_fill; trivial
  clear this
  refine ⟨_, _, _, _, X _ _ (by k_is), rfl, rfl, rfl, ?_⟩
  exact (looks_clsIn X (by k_is)).andThen .now
section
variable {w : World} {A : Around} {R : Result → Shared → Prop} {h : Heap} {g : Array GenState} {d : Drawn} {t : Nat} {os : OsState}
theorem new413 (X : (kk.heap_1 w.params).In h) (hq : R (.ok (.ret (.ref (h.objs.size + 1)))) ⟨(h.push emptyDict).push (instObj 413 h.objs.size), g, d, t, os⟩) :
    codeAny (mdl w) A (.call (.builtin "object.__new__") ⟨[.ref 413], []⟩) R ⟨h, g, d, t, os⟩ := by
  obtain ⟨oc, od, cd, sl, hC, e1, e2, e4, hm⟩ := cls413 w X
  have F := PySem.F.objNew
  have here := here413 w X
  have base := base413 w X
  have mo := madeObj w X
  refine codeAny_call_builtin_code (Code.quiet_builtin _ F.quiet) ?_
  simp only [checkBuiltinCall, F.kind, F.split, F.row]
  have args : Bind.checkArgs "object.__new__" ⟨.hand, "object.__new__", "__new__", .cls, []⟩ ⟨[.ref 413], []⟩ = pure () := by kernel_rfl
  rw [args]
  have top : Looks (mdl w) h (isSubtype (.ref 413) (.type "object")) true := by
    have : Fill PySem.Challenge.rw_in0200_01 kk.heap_1 := by k_fill; trivial
    clear this
    exact looks_mroIn X (by k_is)
  repeat (first | simp only [bne_self_eq_false, Bool.false_eq_true, if_false] | lk)
  refine codeAny_builtin F.entry ?_
  unfold Builtin.«object.__new__»
  have hC' := Heap.get?_push_of_some (instObj 413 (h.push emptyDict).objs.size.pred) (Heap.get?_push_of_some emptyDict hC)
  have fin : ∀ A', wpAny (mdl w) A' (do
      let d ← if typeHasDict (.ref 413) then some <$> alloc { cls := .type "dict", data := .dict #[] } else pure none
      ret (← newObj (.ref 413) .plain d)) (fun fin s' => match fin with | .done f => R (.ok f) s' | .again c' => c'.quiet = true ∧ codeAny (mdl w) A c' R s') (fun e s' => R (.error e) s') ⟨h, g, d, t, os⟩ := by
    intro A'
    show wpAny _ _ ((alloc emptyDict >>= fun x => pure (some x)) >>= _) _ _ _
    refine wpAny_bind (wpAny_bind (wpAny_alloc (wpAny_pure (wpAny_bind ?_))))
    show wpAny _ _ (newObjAsIs _ _ _) _ _ _
    unfold newObjAsIs classHasDel
    refine wpAny_bind (wpAny_alloc (wpAny_bind (wpAny_bind (wpAny_load (Heap.get?_push_of_some _ (Heap.get?_push_of_some _ hC)) (wpAny_pure ?_)))))
    rw [e2]
    refine wpAny_pure (wpAny_pure ?_)
    show R _ _
    rw [Heap.size_push]
    exact hq
  repeat (first | simp only [e1, Bool.false_eq_true, if_false] | exact fin _ | lk)
end
theorem fr_lt {h₀ h : Heap} {L : Addr} {m : Str → Option Value} (F : Fr h₀ L h m) : @LT.lt Nat _ L h.objs.size := by
  obtain ⟨oL, es, ep, hL, r⟩ := F.ns
  exact Heap.lt_size hL
/-- IOBase.__new__ of the class BytesIO -/
theorem new_stream (w : World) (x : Value) :
    Ctr w (kk.heap_1 w.params) (.ref 153) [.ref 413, x] [] (fun _ => True)
      (fun h v h' => ∃ i d, v = .ref i ∧ @LE.le Nat _ h.objs.size d ∧ @LT.lt Nat _ d i ∧ h'.get? i = some (instObj 413 d) ∧ h'.get? d = some emptyDict) 4 31 := by
  have : Fill PySem.Challenge.rw_in0200_01 kk.heap_1 := by k_fill; trivial
  clear this
  refine ctr_enterG (fun n => [(Str.ofString "cls", .ref 413), (Str.ofString "args", .ref n), (Str.ofString "kwargs", .ref (n + 1))]) [{ cls := .type "tuple", data := .seq #[x] }, emptyDict] (by k_is) (by k_is) (fun A E Q s X hq => ?_) (fun n => locs rfl) ?_
  · show wpAny _ _ (newTuple [x] >>= fun v => (alloc emptyDict >>= fun d => pure [(Str.ofString "cls", .ref 413), (Str.ofString "args", v), (Str.ofString "kwargs", .ref d)])) _ _ _
    refine wpAny_bind (wpAny_newTuple ?_)
    refine wpAny_bind (wpAny_alloc (wpAny_pure ?_))
    rw [Heap.size_push]
    exact hq
  intro dp un gd fr base g p loose mean mg mb s L' h₁ tk n st B' X' T' hH hpre hdp hun hg hsz F' N' hlt
  k_steps
  refine wpAny_call (new413 (h := h₁) (X'.keeps F'.keep) ?_)
  exact DoneC.intro ((F'.push _).push _) ⟨_, _, rfl, Nat.le_trans hsz (Nat.le_of_lt (fr_lt F')), Nat.lt_succ_self _, by heap_get, by heap_get⟩
end Mine
end
section
open PySem PySem.W PySem.Spec PySem.Calls PyProof.Rows
namespace Mine
set_option maxRecDepth 100000
set_option maxHeartbeats 1000000
section
variable {M : Model} {A : Around} {E : Value → Shared → Prop} {s : Shared} {env : Env}
theorem wpN_keep {α : Type} {vs : List Value} {m : Sem α} {Q : α → Shared → Prop} (h : wpN M A m Q E s) : wpN M A (m.keep vs) Q E s :=
  fun Γ p hΓ c b => by rw [Sem.wp_keep]; exact h Γ p hΓ c b
theorem wpN_execs_cons {st rest} {Q : Flow → Shared → Prop}
    (h : wpN M A (exec st env) (fun f s' => match f with | .next => wpN M A (execs rest env) Q E s' | f => Q f s') E s) :
    wpN M A (execs (st :: rest) env) Q E s := fun Γ p hΓ c b => by
  rw [execs_cons, Sem.wp_bind']
  refine Sem.wp_mono M Γ _ (fun f p' s' h' => ?_) (fun _ _ _ h' => h') _ _ (h Γ p hΓ c b)
  cases f <;> first | exact h' Γ p' hΓ c b | exact h'
theorem wpN_Return {e pos} {Q : Flow → Shared → Prop} (h : wpN M A (eval e env) (fun v => Q (.ret v)) E s) : wpN M A (exec (.Return (some e) pos) env) Q E s := by
  rw [exec_Return_some]
  exact wpN_bind (wpN_of (wpAny_standAt (wpN_bind (wpN_mono h (fun v s' q => wpN_pure q) fun _ _ x => x))))
theorem wpN_Assign_Name {x pos' value pos} {Q : Flow → Shared → Prop} (hs : swapsWith value (some (.Name x pos')) pos.line env = pure false)
    (h : wpN M A (eval value env) (fun v s' => wpAny M A (storeName env x v) (fun _ => Q .next) E s') E s) : wpN M A (exec (.Assign [.Name x pos'] value pos) env) Q E s := by
  rw [exec_Assign_Name (hs := hs)]
  refine wpN_bind (wpN_of (wpAny_standAt (wpN_bind (wpN_mono h (fun v s' q => wpN_of ?_) fun _ _ x => x))))
  exact wpAny_bind (wpAny_standAt (wpAny_bind (wpAny_bindName (wpAny_mono q (fun _ _ z => wpAny_pure z) fun _ _ z => z))))
theorem wpN_Assign_Attribute {o attr pos' value pos} {Q : Flow → Shared → Prop} (hs : swapsWith value (some (.Attribute o attr pos')) pos.line env = pure false)
    (h : wpN M A (eval value env) (fun v s₁ => wpAny M A (eval o env) (fun ov s₂ => wpAny M A (setAttr ov attr v) (fun _ => Q .next) E s₂) E s₁) E s) :
    wpN M A (exec (.Assign [.Attribute o attr pos'] value pos) env) Q E s := by
  rw [plainObj_exec_Assign_Attribute _ _ _ _ _ hs]
  refine wpN_bind (wpN_of (wpAny_standAt (wpN_bind (wpN_mono h (fun v s' q => wpN_of ?_) fun _ _ x => x))))
  rw [assign_Attribute]
  refine wpAny_bind (wpAny_bind (wpAny_holding (wpAny_mono q (fun ov s₂ q => wpAny_bind (wpAny_standAt (wpAny_bind (wpAny_holding (wpAny_mono q (fun _ _ z => wpAny_release (wpAny_pure z)) fun _ _ z => z))))) fun _ _ z => z)))
theorem wpN_IfExp {test body orelse pos} {Q : Value → Shared → Prop} (h : wpAny M A (isTrue test env (eval test env)) (fun b s' => wpN M A (if b = true then eval body env else eval orelse env) Q E s') E s) :
    wpN M A (eval (.IfExp test body orelse pos) env) Q E s := by
  rw [eval_IfExp]
  refine wpN_bind (wpN_of (wpAny_mono h (fun b s' q => ?_) fun _ _ z => z))
  exact q
theorem wpN_callWith {P : Heap → Prop} {pos : Pos} {f : Value} {first : List Value} {args : List (Bool × Sem Value)} {Q : Value → Shared → Prop} (hplain : args.any (·.1) = false)
    (hk : ∀ h, P h → ∃ k, (k = Keeper.frame ∨ k = Keeper.machine ∨ k = Keeper.boundFrame) ∧ Looks M h (keeperOf f) k)
    (h : wpAny M A (evalArgs f true args []) (fun a s₁ => P s₁.heap ∧ wpN M A (call f (first ++ a.pos) a.kw) Q E s₁) E s) : wpN M A (callWith pos f first args []) Q E s := by
  unfold callWith
  refine wpN_bind (wpN_of (wpAny_holding (wpAny_mono h (fun a s₁ h₁ => wpN_bind (wpN_of (wpAny_standAt ?_))) fun _ _ x => x)))
  obtain ⟨k, hk', L⟩ := hk _ h₁.1
  have hp : (args.any (·.1) || ([] : List (Option Str × Sem Value)).any (·.1.isNone)) = false := by rw [hplain]; rfl
  simp only [hp]
  refine wpN_bind (wpN_of (L.here ?_))
  have tail : ∀ {t : Sem Value}, wpN M A t Q E s₁ → wpN M A (t >>= fun r => holding [r] point >>= fun _ => pure r) Q E s₁ :=
    fun ht => wpN_bind (wpN_mono ht (fun r s₂ hr => wpN_of (wpAny_bind (wpAny_holding (wpAny_point (wpAny_pure hr))))) fun _ _ x => x)
  have marked (mk : Value) : wpN M A (callMarked mk f (first ++ a.pos) a.kw) Q E s₁ := by unfold callMarked; exact wpN_keep h₁.2
  rcases hk' with rfl | rfl | rfl <;> dsimp only <;> first | exact tail h₁.2 | (split <;> first | exact tail h₁.2 | exact tail (marked _))
/-- a call of a name, of one argument -/
theorem wpN_Call1 {P : Heap → Prop} {id : Str} {p pos : Pos} {e : Expr} {Q : Value → Shared → Prop} (f : Value)
    (he : backTo pos (starEach [e] env) = [(false, eval e env)])
    (hk : ∀ h, P h → ∃ k, (k = Keeper.frame ∨ k = Keeper.machine ∨ k = Keeper.boundFrame) ∧ Looks M h (keeperOf f) k)
    (h : wpAny M A (eval (.Name id p) env) (fun f' s₁ => f' = f ∧ wpAny M A (eval e env) (fun v s₂ => P s₂.heap ∧ wpN M A (call f [v]) Q E s₂) E s₁) E s) :
    wpN M A (eval (.Call (.Name id p) [e] [] pos) env) Q E s := by
  rw [arm_eval_Call_Name']
  refine wpN_bind (wpN_of (wpAny_mono h (fun f' s₁ q => ?_) fun _ _ z => z))
  obtain ⟨rfl, q⟩ := q
  rw [he]
  refine wpN_callWith rfl hk (Calls.evalArgs_plain (Calls.spliced_cons (wpAny_mono q (fun _ _ h₁ => Calls.spliced_nil h₁) fun _ _ e => e)))
end
end Mine
end
section
open PySem PySem.W PySem.Spec PySem.Calls PyProof.Rows
namespace Mine
set_option maxRecDepth 100000
set_option maxHeartbeats 1000000
/-- as Ctr, of the contexts that hold no decoder -/
def CtrN (w : World) (K : Frag) (f : Value) (vs : List Value) (H : Led) (Pre : Heap → Prop) (Post : Heap → Value → Heap → Prop) (d u : Nat) : Prop :=
  ∀ (dp un : Nat) (fr : List Env) (s : Shared) (R : Result → Shared → Prop),
    Site K dp un (some []) fr (gOf s.heap H) → (∀ p ∈ H, s.heap.get? p.1 = some p.2) → Pre s.heap → dp + d < recursionLimit → un + u < cLine →
    (∀ (v : Value) (h' : Heap) (tk' : Nat), Stay H s.heap h' → Post s.heap v h' → R (.ok (.ret v)) { s with heap := h', toks := tk' }) →
    codeN (mdl w) (arr dp un (some []) fr) (.call f ⟨vs, []⟩) R s
theorem ctr_enterN {w : World} {K : Frag} {f : Addr} {vs : List Value} {H : Led} {Pre : Heap → Prop} {Post : Heap → Value → Heap → Prop} {d u : Nat}
    {name qual : Str} {params : Arguments} {body : List Stmt} {scope : Scope} {dV kV doc pm cdv ct oc : Value} {an od : Option Addr} {osl : Array (Option Value)}
    (binds : List (Str × Value))
    (ho : K.lookup f = some ⟨oc, od, .func (fnOf name qual params body scope dV kV doc pm an cdv ct), osl⟩) (hcd : codeIn K cdv qual = true) 
    (hbind : ∀ s : Shared, K.In s.heap → BindsTo s (fnOf name qual params body scope dV kV doc pm an cdv ct) ⟨vs, []⟩ binds) (hloc : ∀ y ∈ binds, scope.names.lookup y.1 = some .local)
    (h : ∀ (dp un : Nat) (fr : List Env) (base g : Heap) (p : Program) (loose : List Str) (mean : ExcName → Option Value) (mg mb : Str → Option Value) (s : Shared) (L' : Addr) (h₁ : Heap) (tk : Nat),
      Stay H s.heap g → Below (arr dp un (some []) fr) base fr g → K.In g → Top p loose mean mg mb g → (∀ p ∈ H, s.heap.get? p.1 = some p.2) → Pre s.heap → dp + d < recursionLimit → un + u < cLine →
      (∀ b o, g.get? b = some o → s.heap.get? b = some o) →
      Fr g L' h₁ (fun y => binds.reverse.lookup y) → News g L' h₁ H → (∀ p ∈ H, p.1 < L') →
      wpN (mdl w) ((arr dp un (some []) fr).deeper (envOf qual scope L' f cdv)) (execs body (envOf qual scope L' f cdv))
        (DoneC g L' s (Post s.heap)) (fun _ _ => False) { s with heap := h₁, toks := tk })
    (hcell : ∀ x ∈ scope.names, x.2 ≠ .cell := by decide) (hco : scope.isCoroutine = false := by rfl) (hgen : scope.isGenerator = false := by rfl) (hk : scope.kind = .function := by rfl) :
    CtrN w K (.ref f) vs H Pre Post d u := by
  rintro dp un fr s R ⟨⟨base, B⟩, X, ⟨p, loose, mean, mg, mb, T⟩⟩ hH hpre hdp hun hret
  have keep : ∀ b o, (gOf s.heap H).get? b = some o → s.heap.get? b = some o := fun b o e => of_hideAll _ e
  have Xs : K.In s.heap := X.keeps keep
  have hroom : (arr dp un (some []) fr).depth < recursionLimit := Nat.lt_of_le_of_lt (Nat.le_add_right _ _) hdp
  refine codeN_call_def (fd := fnOf name qual params body scope dV kV doc pm an cdv ct) (body := body) (binds := binds) hroom (Xs _ _ ho) rfl (T.nolimit.keeps keep) (codeRec_of Xs hcd) rfl (hbind s Xs) hcell hloc (fun h₁ hns hk₁ => ?_) hco hgen hk
  refine wpN_mono (h dp un fr base (gOf s.heap H) p loose mean mg mb s s.heap.objs.size h₁ _ (fun b o n e => stay_g n e) B X T hH hpre hdp hun keep ⟨hns, fun b o e => hk₁ b o (keep b o e), Nat.le_of_eq (hideAll_size _ _)⟩
    (fun p hp => ⟨hk₁ _ _ (hH p hp), Nat.ne_of_lt (Heap.lt_size (hH p hp)), hideAll_none _ (List.mem_map_of_mem hp)⟩) (fun p hp => Heap.lt_size (hH p hp))) (fun fl s' hl => ?_) fun _ _ y => y.elim
  obtain ⟨h', tk', m', rfl, F', hp⟩ := hl
  exact hret _ h' tk' (fun b o n e => F'.keep b o (stay_g n e)) hp
/-- a contract at a call of a walk -/
theorem ctr_useN {w : World} {K : Frag} {f : Value} {vs : List Value} {H : Led} {Pre : Heap → Prop} {Post : Heap → Value → Heap → Prop} {d u : Nat}
    (C : CtrN w K f vs H Pre Post d u) {A₀ : Around} {base h₀ : Heap} {outer : List Env} {env : Env} {L : Addr} {m : Str → Option Value} {s : Shared} {news : Led} {dp un : Nat}
    {p : Program} {loose : List Str} {mean : ExcName → Option Value} {mg mb : Str → Option Value} {Q E : Value → Shared → Prop}
    (B : Below A₀ base outer h₀) (F : Fr h₀ L s.heap m) (X : K.In h₀) (N : News h₀ L s.heap news) (T : Top p loose mean mg mb h₀) (hf : env.frame = some L) (hke : env.scope.kind = .function)
    (sub : ∀ p ∈ H, p ∈ news) (hpre : Pre s.heap) (hd : dp + d < recursionLimit) (hu : un + u < cLine)
    (ret : ∀ (v : Value) (h' : Heap) (tk' : Nat), Fr h₀ L h' m → (∀ ns : Led, (∀ p ∈ ns, p ∈ news ∧ p.1 ∉ H.map (·.1)) → News h₀ L h' ns) → Stay H s.heap h' →
      (∀ a o, h'.get? a = some o → s.heap.get? a = none → a ≠ L ∧ h₀.get? a = none) → Post s.heap v h' → Q v { s with heap := h', toks := tk' }) :
    wpN (mdl w) (arr dp un (some []) (env :: outer)) (call f vs) Q E s := by
  have NH : News h₀ L s.heap H := fun p hp => N p (sub p hp)
  refine wpN_call (C dp un (env :: outer) s _ (site_of B F X NH T hf hke) (fun p hp => (NH p hp).1) hpre hd hu fun v h' tk' st hp => ?_)
  exact ret v h' tk' (Fr.stay F NH st) (fun ns hns => News.stay (fun p hp => N p (hns p hp).1) st fun p hp => (hns p hp).2) st (fun a o e n => ⟨(new_of F e n).2.1, (new_of F e n).2.2⟩) hp

local macro_rules | `(tactic| walk_at "call type:type") => `(tactic| ((with_reducible show wpAny _ _ (call _ [Value.bytes _ _]) _ _ _); refine call_type_of (Tx := "bytes") (PySem.W.typeIs_bytes _ _ _) (by decide +kernel) ?_))
/-- walks till a tree of the other logic -/
theorem News.nil {h₀ h : Heap} {L : Addr} : News h₀ L h [] := fun _ hp => (List.not_mem_nil hp).elim
abbrev bioDict (w : World) (q : Addr) (p : Int) (t1 t2 t3 : Tok) : Obj :=
  dictOf [{ hash := PyData.keyHash w.params (Str.ofString "_BytesIO__buf"), key := .str (Str.ofString "_BytesIO__buf") t1, val := .ref q },
    { hash := PyData.keyHash w.params (Str.ofString "_BytesIO__pos"), key := .str (Str.ofString "_BytesIO__pos") t2, val := .int p t3 }] 2
theorem init_stream (w : World) (x d : Addr) (hxd : @LT.lt Nat _ d x) (b : Array UInt8) (hb : b.size ≤ 1000000) (t : Tok) :
    CtrN w (kk.heap_1 w.params) (.ref 200) [.ref x, .bytes b t] [(x, instObj 413 d), (d, emptyDict)] (fun _ => True)
      (fun h v h' => v = .none ∧ ∃ q t1 t2 t3, h.get? q = none ∧ q ≠ x ∧ q ≠ d ∧ h'.get? x = some (instObj 413 d) ∧ h'.get? d = some (bioDict w q 0 t1 t2 t3) ∧ h'.get? q = some (baObj b)) 3 30 := by
  have : Fill PySem.Challenge.rw_in0200_01 kk.heap_1 := by k_fill; trivial
  clear this
  refine ctr_enterN [(Str.ofString "self", .ref x), (Str.ofString "initial_bytes", .bytes b t)] (by k_is) (by k_is) (fun s X => ?_) (locs rfl) ?_
  · exact binds_K X rfl (by k_is) rfl rfl rfl
  intro dp un fr base g p loose mean mg mb s L' h₁ tk st B' X' T' hH hpre hdp hun hg F' N' hlt
  refine wpN_execs_cons (wpN_of ?_)
  (repeat' ((fail_if_success (with_reducible show wpN _ _ _ _ _ _)); first | (k_unfold; (try dsimp only)) | (k_end; kc_close) | walk1 | (dsimp only; walk1) | (leave1; (try dsimp only))))
  refine wpN_execs_cons ?_
  refine wpN_Assign_Attribute rfl ?_
  refine wpN_IfExp ?_
  (repeat' ((fail_if_success (with_reducible show wpN _ _ _ _ _ _)); first | (k_unfold; (try dsimp only)) | (k_end; kc_close) | walk1 | (dsimp only; walk1) | (leave1; (try dsimp only))))
  rw [if_neg (by decide)]
  refine wpN_Call1 (P := fun _ => True) (.type "bytearray") rfl (fun h _ => ⟨.machine, .inr (.inl rfl), Looks.of_pure rfl⟩) ?_
  (repeat' ((fail_if_success (with_reducible show wpN _ _ _ _ _ _)); first | (k_unfold; (try dsimp only)) | (k_end; kc_close) | walk1 | (dsimp only; walk1) | (leave1; (try dsimp only))))
  · exact trivial
  rename Fr _ _ _ _ => F1
  refine ba_make rfl hb fun h₂ e₂ k₂ => ?_
  have fresh : (h₂.get? h₁.objs.size = some (baObj b)) ∧ h₁.objs.size ≠ L' ∧ g.get? h₁.objs.size = none := new_of F1 e₂ (Heap.get?_none_of_le (Nat.le_refl _))
  have st₂ : Stay [] h₁ h₂ := fun c o _ e => k₂ c o e
  have F2 := Fr.stay F1 (News.nil) st₂
  have N2 := News.cons (News.stay N' st₂ (fun _ _ h => nomatch h)) fresh.1 fresh.2.1 fresh.2.2
  have hlt2 : @LT.lt Nat _ x h₁.objs.size := Nat.lt_trans (hlt _ (by k_mem)) (fr_lt F1)
  have hlt3 : @LT.lt Nat _ L' h₁.objs.size := fr_lt F1
  have hlt4 := hlt (x, instObj 413 d) (by k_mem)
  have hlt5 := hlt (d, emptyDict) (by k_mem)
  dsimp only at hlt4 hlt5
  have hq : s.heap.get? h₁.objs.size = none := by
    cases e : s.heap.get? h₁.objs.size with
    | none => rfl
    | some o =>
      have e' := st _ _ (fun hm => by
        simp only [List.map_cons, List.map_nil, List.mem_cons, List.not_mem_nil, or_false] at hm
        rcases hm with hm | hm
        · exact Nat.ne_of_lt hlt2 hm.symm
        · exact Nat.ne_of_lt (Nat.lt_trans hxd hlt2) hm.symm) e
      rw [fresh.2.2] at e'
      cases e'
  generalize h₁.objs.size = q at *
  clear F1 N' k₂ e₂ fresh
  (repeat' ((fail_if_success (with_reducible show wpN _ _ _ _ _ _)); first | (k_unfold; (try dsimp only)) | (k_end; kc_close) | walk1 | (dsimp only; walk1) | (leave1; (try dsimp only))))
  dsimp only
  refine wpN_execs_cons (wpN_of ?_)
  (repeat' ((fail_if_success (with_reducible show wpN _ _ _ _ _ _)); first | (k_unfold; (try dsimp only)) | (k_end; kc_close) | walk1 | (dsimp only; walk1) | (leave1; (try dsimp only))))
  dsimp only
  refine wpN_of (wpAny_execs_nil ?_)
  rename Fr _ _ _ _ => F3; rename News _ _ _ _ => N3
  exact DoneC.next F3 ⟨rfl, q, _, _, _, hq, Ne.symm (Nat.ne_of_lt hlt2), Ne.symm (Nat.ne_of_lt (Nat.lt_trans hxd hlt2)), N3.get (by k_mem), N3.get (by k_mem), N3.get (by k_mem)⟩
end Mine
end
section
open PySem PySem.W PySem.Spec PySem.Calls PyProof.Rows
namespace Mine
set_option maxRecDepth 100000
set_option maxHeartbeats 1000000
theorem codeN_call_builtin_at {prog : Program} {w : World} {A : Around} {s : Shared} {R : Result → Shared → Prop} {id : String} {args : Args} {bt : Builtin} (ok : okCode (.builtin id args) = true) (hq : (Code.builtin id args).quiet = true) (hb : entryFor table id = some bt)
    (h : wpAny (model prog w) A.in1 (checkBuiltinCall id args) (fun _ s₁ => wpN (model prog w) (A.under (.builtin id args)) (bt args)
      (fun fin s' => match fin with | .done f => R (.ok f) s' | .again c' => c'.quiet = true ∧ codeN (model prog w) A c' R s') (fun e s' => R (.error e) s') s₁)
      (fun e s' => R (.error e) s') s) : codeN (model prog w) A (.call (.builtin id) args) R s := by
  refine codeN_of_tree rfl (wpN_of ?_)
  show wpAny _ A.in1 (do checkBuiltinCall id args; again (.builtin id args)) _ _ s
  exact wpAny_bind (wpAny_mono h (fun _ s₁ h₁ => wpAny_pure (And.intro hq (codeN_builtin ok hb h₁))) fun _ _ h' => h')
theorem facts413 (w : World) {h : Heap} (X : (kk.heap_1 w.params).In h) :
    Looks (mdl w) h (specialOf (.ref 413) "__call__") (some (.builtin "type.__call__")) ∧ Looks (mdl w) h (isInstance (.ref 413) (.type "type")) true ∧ Looks (mdl w) h (isSubtype (.ref 413) (.ref 413)) true ∧
      Looks (mdl w) h (typeLookup (.ref 413) "__init__") (some (.ref 200)) ∧ (∀ self, Looks (mdl w) h (bindSpecial (.ref 200) self) (.ref 200, [self])) ∧
      readsIn (kk.heap_1 w.params) 413 (.type "type") = true ∧ findCls (kk.heap_1 w.params) (.ref 413) (.type "type") "__new__" = some (.get (.builtin "staticmethod.__get__") (.ref 157) .none (.ref 413)) ∧
      recIn (kk.heap_1 w.params) 157 "staticmethod" = some [.ref 153] := by
  have : Fill PySem.Challenge.rw_in0200_01 kk.heap_1 := by k_fill; trivial
  clear this
  exact ⟨looks_specialIn X (by k_is), looks_instIn X (by k_is), looks_mroIn X (by k_is), looks_findIn X (by k_is), fun self => bind_fn X self (by k_is), by k_is, by k_is, by k_is⟩
theorem mk_stream (w : World) (b : Array UInt8) (hb : b.size ≤ 1000000) (t : Tok) :
    CtrN w (kk.heap_1 w.params) (.ref 413) [.bytes b t] [] (fun _ => True)
      (fun h v h' => ∃ x d q t1 t2 t3, v = .ref x ∧ x ≠ d ∧ q ≠ x ∧ q ≠ d ∧ h.get? x = none ∧ h.get? d = none ∧ h.get? q = none ∧
        h'.get? x = some (instObj 413 d) ∧ h'.get? d = some (bioDict w q 0 t1 t2 t3) ∧ h'.get? q = some (baObj b)) 5 33 := by
  rintro dp un fr ⟨h, g, dr, tk, os⟩ R ⟨⟨base, B⟩, X, ⟨p, loose, mean, mg, mb, T⟩⟩ hH hpre hdp hun hret
  have e0 : gOf h [] = h := rfl
  dsimp only at B X T hH hpre hret ⊢
  rw [e0] at B X T
  obtain ⟨oc, od, cd, sl, hC, e1, e2, e4, hm⟩ := cls413 w X
  obtain ⟨f1, f2, f3, f4, f5, f6, f7, f8⟩ := facts413 w X
  refine codeN_of_tree rfl (wpN_of ?_)
  show wpAny _ _ (callAny (.ref 413) _) _ _ _
  refine nd_load hC ?_
  show wpAny _ _ (callAny.viaDunder (.ref 413) _) _ _ _
  unfold callAny.viaDunder
  refine wpAny_bind (f1.at ?_)
  dsimp only
  rw [tc_bind]
  refine wpAny_bind (wpAny_pure (wpAny_bind (wpAny_pure ?_)))
  refine wpAny_pure (a := Fin.again (.call (.builtin "type.__call__") ⟨[.ref 413, .bytes b t], []⟩)) (And.intro rfl ?_)
  refine codeN_call_builtin_at (ok_typeCall _) (Code.quiet_builtin _ (by decide +kernel)) entry_typeCall (check_slot tc_kind tc_split f2 (tc_args _ _ _) ?_)
  rw [under_make]
  unfold Builtin.«type.__call__»
  dsimp only
  refine wpN_if_false (by rfl) ?_
  refine wpN_bind (wpN_of (hm.at ?_))
  refine wpN_if_false e4 ?_
  refine wpN_bind (wpN_of ((made413 w X).at ?_))
  dsimp only
  refine wpN_bind (wpN_of (cls_bind X f6 f7 (wpAny_call (sm_get (s := ⟨h, g, dr, tk + 1, os⟩) X f8 (handed_on rfl ?_)))))
  have sB : Below (arr (dp + 1) (un + 1) (some []) fr) base fr h := ⟨B.stack, fun b o e => B.stays b o e, B.frames⟩
  refine wpN_bind (wpN_holding (wpN_of (wpAny_call (new_stream w (.bytes b t) (dp + 1) (un + 1) (some []) fr ⟨h, g, dr, tk + 1, os⟩ _ ⟨⟨base, sB⟩, X, ⟨p, loose, mean, mg, mb, T⟩⟩ (fun _ hp => (List.not_mem_nil hp).elim) trivial (by (first | lia | omega)) (by (first | lia | omega))
    fun v h₁ tk₁ st₁ hp => ?_))))
  obtain ⟨i, d, rfl, le, lt, gi, gd⟩ := hp
  have k : ∀ c o, h.get? c = some o → h₁.get? c = some o := fun c o e => st₁ c o (List.not_mem_nil) e
  have t1 : Looks (mdl w) h₁ (typeOf (.ref i)) (.ref 413) := (Looks.ld gi).andThen .now
  show wpN _ _ _ _ _ (Shared.mk h₁ g dr tk₁ os)
  refine wpN_bind (wpN_of ?_)
  unfold isInstance
  refine wpAny_bind (t1.at ((f3.keeps k).at ?_))
  refine wpN_if_false rfl ?_
  refine wpN_bind (wpN_holding ?_)
  unfold callSpecial? specialOf
  refine wpN_bind (wpN_bind (wpN_of (t1.at (wpN_of ((f4.keeps k).at ?_)))))
  dsimp only
  refine wpN_holding (wpN_bind (wpN_of (((f5 (.ref i)).keeps k).at ?_)))
  dsimp only
  have nx : i ≠ d := Ne.symm (Nat.ne_of_lt lt)
  have offH : ∀ c o, h.get? c = some o → c ∉ [(i, instObj 413 d), (d, emptyDict)].map (·.1) := fun c o e q => by
    have hl := Heap.lt_size e
    simp only [List.map_cons, List.map_nil, List.mem_cons, List.not_mem_nil, or_false] at q
    rcases q with rfl | rfl
    · exact absurd (Nat.lt_trans (Nat.lt_of_lt_of_le hl le) lt) (Nat.lt_irrefl _)
    · exact absurd (Nat.lt_of_lt_of_le hl le) (Nat.lt_irrefl _)
  have kg : ∀ c o, h.get? c = some o → (gOf h₁ [(i, instObj 413 d), (d, emptyDict)]).get? c = some o := fun c o e => stay_g (offH c o e) (k c o e)
  refine wpN_bind (wpN_call (init_stream w i d lt b hb t (dp + 1) (un + 1) fr ⟨h₁, g, dr, tk₁, os⟩ _
    ⟨⟨base, ⟨B.stack, fun c o e => kg c o (B.stays c o e), B.frames.of_keeps fun c o e _ => ⟨o, kg c o e, rfl⟩⟩⟩, X.keeps kg, ⟨p, loose, mean, mg, mb, T.keeps kg⟩⟩
    (by intro q hq; simp only [List.mem_cons, List.not_mem_nil, or_false] at hq; rcases hq with rfl | rfl; exact gi; exact gd) trivial (by (first | lia | omega)) (by (first | lia | omega))
    (fun v h₂ tk₂ st₂ hp => ?_)))
  obtain ⟨rfl, q, t1', t2', t3', q0, q1, q2, gx, gdd, gq⟩ := hp
  refine wpN_pure (wpN_pure ?_)
  refine hret (.ref i) h₂ tk₂ (fun c o _ e => st₂ c o (offH c o e) (k c o e)) ⟨i, d, q, t1', t2', t3', rfl, nx, q1, q2, ?_, ?_, ?_, gx, gdd, gq⟩
  · exact Heap.get?_none_of_le (Nat.le_trans le (Nat.le_of_lt lt))
  · exact Heap.get?_none_of_le le
  · cases e : h.get? q with
    | none => rfl
    | some o =>
      have := k _ _ e
      rw [q0] at this
      cases this
end Mine
end
section
open PySem PySem.W PySem.Spec PySem.Calls PyProof.Rows
namespace Mine
set_option maxRecDepth 100000
set_option maxHeartbeats 1000000
namespace FA
theorem slot_get : Slot "bytearray" "__getitem__" "bytearray.__getitem__" :=
  .of (owner := "bytearray") (n := "__getitem__") (by rw [typeLookup_type, builtinLookup_eq_fast]; kernel_rfl) (by decide +kernel) (by decide +kernel) (by decide +kernel)
    (by first | exact .inl (by decide +kernel) | exact .inr (by decide +kernel)) (by rw [isSubtype_type]; kernel_rfl)
theorem entry_get : entryFor table "bytearray.__getitem__" = some Builtin.«bytearray.__getitem__» := entryFor_of_tree (by kernel_rfl)
theorem args_get (a b : Value) : argsOk "bytearray.__getitem__" ⟨[a, b], []⟩ := by unfold argsOk; kernel_rfl
end FA
theorem sliced_ext (b : Array UInt8) (i j : Nat) (hi : i ≤ j) (hj : j ≤ b.size) : Builtin.Bytes.sliced b i j 1 = b.extract i j := by
  unfold Builtin.Bytes.sliced
  rw [sliceRange_one]
  apply Array.ext'
  simp only [Array.toList_extract]
  have : ∀ (n a : Nat), a + n ≤ b.size → ((List.range n).map (a + ·)).filterMap (b[·]?) = (b.toList.drop a).take n := by
    intro n
    induction n with
    | zero => intro a _; simp
    | succ n ih =>
      intro a h
      rw [List.range_succ_eq_map, List.map_cons, List.map_map, List.filterMap_cons]
      have ha : a < b.size := by (first | lia | omega)
      rw [show b[a + 0]? = some b[a] from by rw [Nat.add_zero]; exact Array.getElem?_eq_getElem ha]
      have e : (List.map ((a + ·) ∘ Nat.succ) (List.range n)) = (List.range n).map (a + 1 + ·) := by
        apply List.map_congr_left; intro k _; simp; (first | lia | omega)
      rw [e]
      have hd : b.toList.drop a = b[a] :: b.toList.drop (a + 1) := by
        rw [List.drop_eq_getElem_cons (by simpa using ha)]; simp
      rw [hd, List.take_succ_cons]
      simp only [ih (a + 1) (by (first | lia | omega))]
  rw [this (j - i) i (by (first | lia | omega))]
  try simp [List.extract, List.drop_take]
def bytesPart (v : Value) : Sem Value := do
  if v == .none then return .none
  if (← specialOf v "__index__").isNone then
    rule "bytes.slice.part-no-index"; raiseError "TypeError" "slice indices must be integers or None or have an __index__ method"
  return rawInt (← asIndex v)
theorem bytesParts_eq (s : Value) : Builtin.Bytes.sliceParts s = (do
    let step ← bytesPart (← field s 2)
    if step == rawInt 0 then rule "bytes.slice.step-zero"; raiseError "ValueError" "slice step cannot be zero"
    let start ← bytesPart (← field s 0)
    let stop ← bytesPart (← field s 1)
    return (start, stop, step)) := rfl
theorem wpAny_bytesPart {M : Model} {A : Around} {E : Value → Shared → Prop} {s : Shared} {v : Value} {k : Option Int} {Q : Value → Shared → Prop} (hv : IsPart v k) (h : Q (rawPart k) s) : wpAny M A (bytesPart v) Q E s := by
  cases hv with
  | none => exact wpAny_pure h
  | int i t =>
    unfold bytesPart
    rw [if_neg (show ¬ ((Value.int i t == Value.none) = true) from Bool.false_ne_true)]
    refine wpAny_bind (wpAny_specialOf (T := "int") (typeIs_int s i t) int_index ?_)
    simp only [Option.isNone_some, Bool.false_eq_true, if_false]
    exact wpAny_bind (wpAny_of_eq (a := i) rfl (wpAny_pure h))
section
variable {prog : Program} {w : World} {A : Around} {E : Value → Shared → Prop} {s : Shared} {a : Addr} {b : Array UInt8}
theorem ba_slice {sl : Addr} {i j : Nat} {ti tj : Tok} {Q : Value → Shared → Prop} (ho : s.heap.get? a = some (baObj b)) (hi : i ≤ j) (hj : j ≤ b.size) (hfit : b.size ≤ 1000000)
    (hs : s.heap.IsSliceOf sl (.int i ti) (.int j tj) .none)
    (h : Q (.ref s.heap.objs.size) { s with heap := s.heap.push (baObj (b.extract i j)) }) : wpAny (model prog w) A (getItem (.ref a) (.ref sl)) Q E s := by
  have hT := ba_type ho
  obtain ⟨os, hos, hcs, hds⟩ := id hs
  have hTs : s.TypeIs (.ref sl) "slice" := ⟨os, hos, hcs⟩
  unfold getItem
  try with_reducible refine wpAny_holding ?_
  first | refine wpAny_bind (wpAny_pure ?_) | skip
  refine wpAny_bind (wpAny_sequenceKey hT (by decide) ?_)
  refine wpAny_bind (wpAny_callSpecial?_slot (name := Str.ofString "__getitem__") hT FA.slot_get
    (wpAny_call_entry FA.slot_get hT FA.entry_get ?_ (FA.args_get _ _)))
  unfold Builtin.«bytearray.__getitem__»
  refine wpAny_bind (wpAny_pure ?_)
  dsimp only
  unfold Builtin.Bytes.subscript?
  refine wpAny_bind (wpAny_bind (wpAny_specialOf hTs slice_no_index ?_))
  simp only [Option.isNone_none, if_true]
  refine wpAny_pure ?_
  dsimp only
  refine wpAny_bind (wpAny_typeOf hTs ?_)
  rw [if_neg (by decide)]
  rw [bytesParts_eq]
  refine wpAny_bind (wpAny_bind (wpAny_field hos hds (x := .none) rfl (wpAny_bind (wpAny_bytesPart .none ?_))))
  rw [if_neg (by decide)]
  refine wpAny_bind (wpAny_field hos hds (x := .int i ti) rfl (wpAny_bind (wpAny_bytesPart (.int _ _) ?_)))
  refine wpAny_bind (wpAny_field hos hds (x := .int j tj) rfl (wpAny_bind (wpAny_bytesPart (.int _ _) (wpAny_pure ?_))))
  refine wpAny_bind (m := Builtin.Bytes.payload (.ref a)) ?_
  refine wpAny_bind ?_
  show wpAny _ _ (load a >>= _) _ _ _
  refine wpAny_bind (wpAny_load ho ?_)
  refine wpAny_pure (wpAny_pure ?_)
  refine wpAny_bind (wpAny_of_eq (sliceIndices_raw (some (i : Int)) (some (j : Int)) none b.size (by simp)) ?_)
  have eb : sliceBounds (some (i : Int)) (some (j : Int)) none b.size = ((i : Int), (j : Int), 1) := by
    have h1 : ¬ ((i : Int) < 0) := by (first | lia | omega)
    have h2 : ¬ ((j : Int) < 0) := by (first | lia | omega)
    simp only [sliceBounds, Option.getD_none, h1, h2, if_false, Int.zero_lt_one, if_true, gt_iff_lt]
    simp only [Prod.mk.injEq, and_true]
    constructor <;> (first | lia | omega)
  rw [eb]
  dsimp only
  rw [sliced_ext b i j hi hj]
  unfold Builtin.Bytes.newBytearray
  refine wpAny_bind (wpAny_newObj_type (wpAny_pure ⟨_, rfl, ?_⟩) ?_)
  · exact wpAny_pure h
  · show (b.extract i j).size ≤ sizeLine
    rw [sizeLine_eq, Array.size_extract]
    (first | lia | omega)
/-- a slice of a bytearray of the ledger, in a walk's frame -/
theorem slice_ba {h₀ : Heap} {L q : Addr} {m : Str → Option Value} {news : Led} {x y z : Str} {np sp yp zp : Pos} {i j : Int} {ti tj : Tok} {Q : Value → Shared → Prop}
    (F : Fr h₀ L s.heap m) (N : News h₀ L s.heap news) (hm : (q, baObj b) ∈ news) (hi' : 0 ≤ i ∧ i ≤ j) (hj : j ≤ b.size) (hfit : b.size ≤ 1000000)
    (h : ∀ h' q', Fr h₀ L h' m → News h₀ L h' ((q', baObj (b.extract i.toNat j.toNat)) :: news) → Q (.ref q') { s with heap := h' }) :
    wpAny (model prog w) A (subscriptTail (.Name x np) (.Slice (some (.Name y yp)) (some (.Name z zp)) none sp) (.ref q) (.ref s.heap.objs.size)) Q E { s with heap := s.heap.push { cls := .type "slice", data := .fields #[.int i ti, .int j tj, .none] } } := by
  have hq := (N _ hm).1
  have e0 : (s.heap.push { cls := .type "slice", data := .fields #[.int i ti, .int j tj, .none] }).get? q = some (baObj b) := Heap.get?_push_of_some _ hq
  have kp : ∀ c o, s.heap.get? c = some o → ((s.heap.push { cls := .type "slice", data := .fields #[.int i ti, .int j tj, .none] }).push (baObj (b.extract i.toNat j.toNat))).get? c = some o :=
    fun c o e => Heap.get?_push_of_some _ (Heap.get?_push_of_some _ e)
  obtain ⟨i, rfl⟩ := Int.eq_ofNat_of_zero_le hi'.1
  obtain ⟨j, rfl⟩ := Int.eq_ofNat_of_zero_le (Int.le_trans hi'.1 hi'.2)
  have hT := ba_type (s := { s with heap := s.heap.push { cls := .type "slice", data := .fields #[.int (i : Int) ti, .int (j : Int) tj, .none] } }) e0
  unfold subscriptTail
  refine wpAny_bind ?_
  rw [getitemInPython_of_ne hT.not_modules]
  refine wpAny_bind (wpAny_specialOf hT FA.slot_get.lookup ?_)
  have go : ∀ {t : Sem Value}, wpAny (model prog w) A t Q E { s with heap := s.heap.push { cls := .type "slice", data := .fields #[.int (i : Int) ti, .int (j : Int) tj, .none] } } →
      wpAny (model prog w) A (operate [.ref s.heap.objs.size, .ref q] t) (fun r s₃ => wpAny (model prog w) A (letTemporaryGo (.Name x np) (.ref q) r >>= fun _ => pure r) Q E s₃) E { s with heap := s.heap.push { cls := .type "slice", data := .fields #[.int (i : Int) ti, .int (j : Int) tj, .none] } } :=
    fun ht => wpAny_operating (wpAny_mono ht (fun r s₃ h₃ => wpAny_bind (wpAny_pure (wpAny_pure h₃))) fun _ _ x => x)
  first
    | refine wpAny_pure (wpAny_bind (go ?_))
    | refine wpAny_bind (wpAny_pure (wpAny_bind (go ?_)))
    | refine wpAny_bind (go ?_)
  refine ba_slice (i := i) (j := j) e0 (by (first | lia | omega)) (by (first | lia | omega)) hfit (Heap.IsSliceOf.new ..) ?_
  have st : Stay [] s.heap ((s.heap.push { cls := .type "slice", data := .fields #[.int (i : Int) ti, .int (j : Int) tj, .none] }).push (baObj (b.extract i j))) := fun c o _ e => kp c o e
  have fresh := new_of F (a := s.heap.objs.size + 1) (o := baObj (b.extract i j)) (h' := (s.heap.push { cls := .type "slice", data := .fields #[.int (i : Int) ti, .int (j : Int) tj, .none] }).push (baObj (b.extract i j)))
    (Heap.get?_push_at (by simp only [Heap.size_push]) rfl) (Heap.get?_none_of_le (Nat.le_succ _))
  have := h _ (s.heap.objs.size + 1) (Fr.stay F News.nil st) (News.cons (News.stay N st fun _ _ h => nomatch h) fresh.1 fresh.2.1 fresh.2.2)
  simpa only [Heap.size_push] using this
end
end Mine
end
section
open PySem PySem.W PySem.Spec PySem.Calls PyProof.Rows
namespace Mine
set_option maxRecDepth 100000
set_option maxHeartbeats 2000000
local macro_rules | `(tactic| k_room) => `(tactic| ((try simp only [depth_mark, depth_under_make, depth_under_kw, depth_in1, depth_deeper, arr]); (first | lia | omega)))
local macro_rules | `(tactic| k_units) => `(tactic| ktr_units)
local macro_rules | `(tactic| k_all) => `(tactic| assumption)
local macro_rules | `(tactic| walk_at "call builtin:len") => `(tactic| (refine ba_len (b := _) (News.get (by k_asm) (by k_mem)) (by (first | lia | omega)) fun t k => ?_))
local macro_rules | `(tactic| walk_at "subscriptTail Name Slice ref ref") => `(tactic| ((rename Fr _ _ _ _ => aF); (rename News _ _ _ _ => aN); (refine' slice_ba (b := _) (s := ⟨_, _, _, _, _⟩) aF aN ?k1 ?k2 ?k3 ?k4 ?_; (case k1 => k_mem); (case k2 => (first | lia | omega)); (case k3 => (first | lia | omega)); (case k4 => (first | lia | omega))); clear aF aN; intro h' q' F' N'))
local macro_rules | `(tactic| walk_at "call type:bytes") => `(tactic| (refine ba_bytes (b := _) (News.get (by k_asm) (by k_mem)) (by (try rw [Array.size_extract]); (first | lia | omega)) fun t k => ?_))
theorem ext_nil (b : Array UInt8) (p k : Nat) (h : b.size ≤ p) : b.extract p k = #[] := Array.eq_empty_of_size_eq_zero (by rw [Array.size_extract]; (first | lia | omega))
theorem read_n (w : World) (x d q : Addr) (b : Array UInt8) (hb : b.size ≤ 1000000) (p : Nat) (t1 t2 t3 : Tok) (n : Int) (tk : Tok) (hn : 0 ≤ n ∧ n ≤ 1000000) (hp : p ≤ b.size)
    (d1 : x ≠ d) (d2 : q ≠ x) (d3 : q ≠ d) :
    Ctr w (kk.heap_1 w.params) (.ref 337) [.ref x, .int n tk] [(x, instObj 413 d), (d, bioDict w q p t1 t2 t3), (q, baObj b)] (fun _ => True)
      (fun h v h' => (∃ t, v = .bytes (b.extract p (min b.size (p + n.toNat))) t) ∧ ∃ t3', h'.get? x = some (instObj 413 d) ∧ h'.get? d = some (bioDict w q (min b.size (p + n.toNat) : Nat) t1 t2 t3') ∧ h'.get? q = some (baObj b)) 6 60 := by
  have : Fill PySem.Challenge.rw_in0200_01 kk.heap_1 := by k_fill; trivial
  clear this
  refine ctr_enter [(Str.ofString "self", .ref x), (Str.ofString "size", .int n tk)] (by k_is) (by k_is) (fun s X => binds_K X rfl (by k_is) rfl rfl rfl) (locs rfl) ?_
  intro dp un gd fr base g pp loose mean mg mb s L' h₁ tk st B' X' T' hH hpre hdp hun hg F' N' hlt
  k_steps
  · dsimp only
    rename Fr _ _ _ _ => F1; rename News _ _ _ _ => N1
    have e1 : (min b.size (p + n.toNat) : Nat) = p := by (first | lia | omega)
    rw [show b.extract p (min b.size (p + n.toNat)) = #[] from ext_nil b _ _ (by (first | lia | omega)), e1]
    exact DoneC.intro F1 ⟨⟨_, rfl⟩, t3, N1.get (by k_mem), N1.get (by k_mem), N1.get (by k_mem)⟩
  · k_steps
    rename Fr _ _ _ _ => F1; rename News _ _ _ _ => N1
    have e1 : ((min b.size (p + n.toNat) : Nat) : Int) = (p : Int) + n := by (first | lia | omega)
    have e2 : min b.size (p + n.toNat) = ((p : Int) + n).toNat := by (first | lia | omega)
    rw [e1, e2]
    exact DoneC.intro F1 ⟨⟨_, rfl⟩, _, N1.get (by k_mem), N1.get (by k_mem), N1.get (by k_mem)⟩
  · k_steps
    rename Fr _ _ _ _ => F1; rename News _ _ _ _ => N1
    have e1 : ((min b.size (p + n.toNat) : Nat) : Int) = (b.size : Int) := by (first | lia | omega)
    have e2 : min b.size (p + n.toNat) = ((b.size : Int)).toNat := by (first | lia | omega)
    rw [e1, e2]
    exact DoneC.intro F1 ⟨⟨_, rfl⟩, _, N1.get (by k_mem), N1.get (by k_mem), N1.get (by k_mem)⟩
theorem read_all (w : World) (x d q : Addr) (b : Array UInt8) (hb : b.size ≤ 1000000) (p : Nat) (t1 t2 t3 : Tok) (hp : b.size = p)
    (d1 : x ≠ d) (d2 : q ≠ x) (d3 : q ≠ d) :
    Ctr w (kk.heap_1 w.params) (.ref 337) [.ref x] [(x, instObj 413 d), (d, bioDict w q p t1 t2 t3), (q, baObj b)] (fun _ => True)
      (fun h v h' => (∃ t, v = .bytes (b.extract p (b.size)) t) ∧ ∃ t3', h'.get? x = some (instObj 413 d) ∧ h'.get? d = some (bioDict w q (b.size : Nat) t1 t2 t3') ∧ h'.get? q = some (baObj b)) 6 60 := by
  have : Fill PySem.Challenge.rw_in0200_01 kk.heap_1 := by k_fill; trivial
  clear this
  refine ctr_enter [(Str.ofString "self", .ref x), (Str.ofString "size", .int (-1) 615)] (by k_is) (by k_is) (fun s X => binds_K X rfl (by k_is) rfl rfl rfl) (locs rfl) ?_
  intro dp un gd fr base g pp loose mean mg mb s L' h₁ tk st B' X' T' hH hpre hdp hun hg F' N' hlt
  k_steps
  dsimp only
  rename Fr _ _ _ _ => F1; rename News _ _ _ _ => N1
  rw [show b.extract p b.size = #[] from ext_nil b _ _ (Nat.le_of_eq hp), hp]
  exact DoneC.intro F1 ⟨⟨_, rfl⟩, t3, N1.get (by k_mem), N1.get (by k_mem), N1.get (by k_mem)⟩
end Mine
end
section
open PySem PySem.W PySem.Spec PySem.Calls PyProof.Rows
namespace Mine
set_option maxRecDepth 100000
set_option maxHeartbeats 1000000
open PySem.Builtin
/-- the text of latin octets -/
def latStr (l : List UInt8) : Str := ⟨(l.map (·.toNat)).toArray⟩
theorem lat_run (id : String) (l : List UInt8) (h : l.length ≤ 5) : ∃ n, _codecs.runDecoder id _codecs.latin1Decoder none true l.toArray 0 [] = pure ((latStr l).cps, n) := by
  match l, h with
  | [], _ => exact ⟨0, by kernel_rfl⟩
  | [c1], _ => exact ⟨1, by kernel_rfl⟩
  | [c1, c2], _ => exact ⟨2, by kernel_rfl⟩
  | [c1, c2, c3], _ => exact ⟨3, by kernel_rfl⟩
  | [c1, c2, c3, c4], _ => exact ⟨4, by kernel_rfl⟩
  | [c1, c2, c3, c4, c5], _ => exact ⟨5, by kernel_rfl⟩
  | _ :: _ :: _ :: _ :: _ :: _ :: _, h => simp at h
theorem lat_road {id : String} {b : Array UInt8} : _codecs.decodeRoad id b (Str.ofString "latin-1") none [] = (_codecs.runDecoder id _codecs.latin1Decoder none true b 0 [] >>= fun r => mkStr ⟨r.1⟩) := by kernel_rfl
theorem lat_text {b : Array UInt8} {t t1 t2 : Tok} {d : PySem.Str} {x : PySem.Str} (hx : x.length ≤ 1000) (hd : ∀ id, ∃ n, _codecs.runDecoder id _codecs.latin1Decoder none true b 0 [] = pure (x.cps, n)) :
    Meets («_codecs.decode.text» ⟨[.bytes b t, .str (PySem.Str.ofString "latin-1") t1, .none, .str d t2], []⟩) (fun _ R s => R (.ok (.ret (.str x s.toks))) { s with toks := s.toks + 1 }) := by
  refine .of_wp fun prog w A R s h => ?_
  show wpAny _ _ (Bytes.bytesLike _ (.bytes b t) >>= fun r => _) _ _ s
  refine wpAny_bind (wpAny_of_eq KBd.like_eq ?_)
  refine wpAny_bind (wpAny_of_eq KBd.held_eq ?_)
  show wpAny _ _ (_codecs.decodeRoad _ b (PySem.Str.ofString "latin-1") none [] >>= fun v => _) _ _ s
  rw [lat_road]
  obtain ⟨n, e⟩ := hd (Str.toString d)
  rw [e]
  refine wpAny_bind (wpAny_bind (wpAny_pure ?_))
  exact wpAny_mkStr (wpAny_pure ⟨_, rfl, h⟩) (by rw [sizeLine_eq]; show x.length ≤ _; (first | lia | omega))
theorem lat_entry {c : UInt8} {cs : List UInt8} {t te : Tok} : «bytes.decode» ⟨[.bytes (c :: cs).toArray t, .str (PySem.Str.ofString "latin-1") te], []⟩ = (mkStr (PySem.Str.ofString "utf-8") >>= fun _ => mkStr (PySem.Str.ofString "latin-1") >>= fun e => mkStr (PySem.Str.ofString "bytes.decode") >>= fun d =>
    call (.builtin "_codecs.decode.text") [.bytes (c :: cs).toArray t, e, .none, d] >>= fun v => ret v) := by kernel_rfl
theorem lat_entry0 {t te : Tok} : «bytes.decode» ⟨[.bytes ([] : List UInt8).toArray t, .str (PySem.Str.ofString "latin-1") te], []⟩ = (rule "bytes.decode.empty" >>= fun _ => mkStr Str.empty >>= fun v => ret v) := by kernel_rfl
theorem lat_args (a b : Value) : argsOk "bytes.decode" ⟨[a, b], []⟩ := by
  unfold argsOk; rw [signature?_of (id := "bytes.decode") (n := ['e', 'd', 'o', 'c', 'e', 'd']) (o := ['s', 'e', 't', 'y', 'b']) (by kernel_rfl) FB.owner_bytes]; kernel_rfl
theorem lat_len (l : List UInt8) : (latStr l).length = l.length := by show (List.map _ l).toArray.size = _; simp
theorem lat_meets {l : List UInt8} (hl : l.length ≤ 5) {t te : Tok} :
    Meets («bytes.decode» ⟨[.bytes l.toArray t, .str (PySem.Str.ofString "latin-1") te], []⟩) (fun _ R s => ∀ t' k, R (.ok (.ret (.str (latStr l) t'))) { s with toks := k }) := by
  refine .of_wp fun prog w A R s h => ?_
  cases l with
  | nil =>
    rw [lat_entry0]
    exact wpAny_bind (wpAny_rule (wpAny_bind (wpAny_mkStr (wpAny_pure ⟨_, rfl, h _ _⟩) (by decide))))
  | cons c cs =>
    rw [lat_entry]
    refine wpAny_bind (wpAny_mkStr ?_ (by decide))
    refine wpAny_bind (wpAny_mkStr ?_ (by decide))
    refine wpAny_bind (wpAny_mkStr ?_ (by decide))
    exact wpAny_bind (call_function_meets KBd.kind_text KBd.plain_text KBd.entry_text (KBd.args_text _ _ _ _) (lat_text (x := latStr (c :: cs)) (by rw [lat_len]; (first | lia | omega)) fun id => lat_run id _ hl) (wpAny_pure ⟨_, rfl, h _ _⟩))
theorem lat_decode {prog : Program} {w : World} {A : Around} {E : Value → Shared → Prop} {s : Shared} {l : List UInt8} {t te : Tok} {Q : Value → Shared → Prop} (hl : l.length ≤ 5) (h : ∀ t' k, Q (.str (latStr l) t') { s with toks := k }) :
    wpAny (model prog w) A (call (.builtin "bytes.decode") [.bytes l.toArray t, .str (PySem.Str.ofString "latin-1") te]) Q E s :=
  call_meets FB.slot_bytes_decode (PySem.W.typeIs_bytes _ _ _) FB.entry_bytes_decode (lat_args _ _) (lat_meets hl) h
end Mine
end
section
open PySem PySem.W PySem.Spec PySem.Calls PyProof.Rows
namespace Mine
set_option maxRecDepth 100000
set_option maxHeartbeats 1000000
/-- the octets l stand at p -/
def AtB (b : Array UInt8) (p : Nat) (l : List UInt8) : Prop := ∃ pre post : List UInt8, b = (pre ++ (l ++ post)).toArray ∧ pre.length = p
theorem AtB.ext {b : Array UInt8} {p : Nat} {l : List UInt8} (h : AtB b p l) : b.extract p (p + l.length) = l.toArray ∧ p + l.length ≤ b.size := by
  obtain ⟨pre, post, rfl, rfl⟩ := h
  refine ⟨?_, by simp⟩
  apply Array.ext'
  simp only [Array.toList_extract, List.extract]
  simp [List.drop_left', Nat.add_sub_cancel_left]
theorem AtB.tail {b : Array UInt8} {p : Nat} {c : UInt8} {l : List UInt8} (h : AtB b p (c :: l)) : AtB b (p + 1) l := by
  obtain ⟨pre, post, rfl, rfl⟩ := h
  exact ⟨pre ++ [c], post, by simp, by simp⟩
theorem AtB.head {b : Array UInt8} {p : Nat} {c : UInt8} {l : List UInt8} (h : AtB b p (c :: l)) : AtB b p [c] := by
  obtain ⟨pre, post, rfl, rfl⟩ := h
  exact ⟨pre, l ++ post, by simp, rfl⟩
theorem AtB.app {b : Array UInt8} {p : Nat} {l l' : List UInt8} (h : AtB b p (l ++ l')) : AtB b p l ∧ AtB b (p + l.length) l' := by
  obtain ⟨pre, post, rfl, rfl⟩ := h
  exact ⟨⟨pre, l' ++ post, by simp, rfl⟩, ⟨pre ++ l, post, by simp, by simp⟩⟩
abbrev strLed (w : World) (x d q : Addr) (b : Array UInt8) (p : Nat) (t1 t2 t3 : Tok) : Led := [(x, instObj 413 d), (d, bioDict w q p t1 t2 t3), (q, baObj b)]
/-- what a read leaves -/
def StrAt (w : World) (x d q : Addr) (b : Array UInt8) (p : Nat) (t1 t2 : Tok) (h' : Heap) : Prop :=
  ∃ t3', h'.get? x = some (instObj 413 d) ∧ h'.get? d = some (bioDict w q p t1 t2 t3') ∧ h'.get? q = some (baObj b)
theorem StrAt.of {w : World} {x d q : Addr} {b : Array UInt8} {p : Nat} {t1 t2 t3 : Tok} {h₀ h : Heap} {L : Addr} {rest : Led} (N : News h₀ L h (strLed w x d q b p t1 t2 t3 ++ rest)) : StrAt w x d q b p t1 t2 h :=
  ⟨t3, (N _ (List.mem_append_left _ (List.mem_cons_self))).1, (N _ (List.mem_append_left _ (List.mem_cons_of_mem _ List.mem_cons_self))).1, (N _ (List.mem_append_left _ (List.mem_cons_of_mem _ (List.mem_cons_of_mem _ List.mem_cons_self)))).1⟩
/-- a reading contract at a call -/
theorem stream_use {w : World} {K : Frag} {f : Value} {vs : List Value} {x d q : Addr} {b : Array UInt8} {p p' : Nat} {t1 t2 t3 : Tok} {PV : Value → Prop} {dd uu : Nat}
    (C : Ctr w K f vs (strLed w x d q b p t1 t2 t3) (fun _ => True) (fun _ v h' => PV v ∧ StrAt w x d q b p' t1 t2 h') dd uu)
    {A₀ : Around} {base h₀ : Heap} {outer : List Env} {env : Env} {L : Addr} {m : Str → Option Value} {s : Shared} {rest : Led} {dp un : Nat} {gd : Option (List Code)}
    {pp : Program} {loose : List Str} {mean : ExcName → Option Value} {mg mb : Str → Option Value} {Q E : Value → Shared → Prop}
    (B : Below A₀ base outer h₀) (F : Fr h₀ L s.heap m) (X : K.In h₀) (N : News h₀ L s.heap (strLed w x d q b p t1 t2 t3 ++ rest)) (T : Top pp loose mean mg mb h₀) (hf : env.frame = some L) (hke : env.scope.kind = .function)
    (off : ∀ r ∈ rest, r.1 ≠ x ∧ r.1 ≠ d ∧ r.1 ≠ q) (hd : dp + dd < recursionLimit) (hu : un + uu < cLine)
    (ret : ∀ (v : Value) (h' : Heap) (tk' : Nat) (t3' : Tok), Fr h₀ L h' m → News h₀ L h' (strLed w x d q b p' t1 t2 t3' ++ rest) → PV v → Q v { s with heap := h', toks := tk' }) :
    wpAny (model PySem.Challenge.rw_in0200_01.row.prog w) (arr dp un gd (env :: outer)) (call f vs) Q E s := by
  refine ctr_use C B F X N T hf hke (fun r hr => List.mem_append_left _ hr) trivial hd hu fun v h' tk' F' N' st fresh hp => ?_
  obtain ⟨pv, t3', g1, g2, g3⟩ := hp
  refine ret v h' tk' t3' F' ?_ pv
  have n1 := (N _ (List.mem_append_left _ (List.mem_cons_self))).2
  have n2 := (N _ (List.mem_append_left _ (List.mem_cons_of_mem _ List.mem_cons_self))).2
  have n3 := (N _ (List.mem_append_left _ (List.mem_cons_of_mem _ (List.mem_cons_of_mem _ List.mem_cons_self)))).2
  have NR : News h₀ L h' rest := N' rest fun r hr => ⟨List.mem_append_right _ hr, fun hm => by
    simp only [List.map_cons, List.map_nil, List.mem_cons, List.not_mem_nil, or_false] at hm
    obtain ⟨o1, o2, o3⟩ := off r hr
    rcases hm with e | e | e
    · exact o1 e
    · exact o2 e
    · exact o3 e⟩
  exact News.cons (News.cons (News.cons NR g3 n3.1 n3.2) g2 n2.1 n2.2) g1 n1.1 n1.2
local macro_rules | `(tactic| k_room) => `(tactic| ((try simp only [depth_mark, depth_under_make, depth_under_kw, depth_in1, depth_deeper, arr]); (first | lia | omega)))
local macro_rules | `(tactic| k_units) => `(tactic| ktr_units)
local macro_rules | `(tactic| k_all) => `(tactic| assumption)
/-- read(n) where n octets stand -/
theorem read_at (w : World) (x d q : Addr) (b : Array UInt8) (hb : b.size ≤ 1000000) (p : Nat) (t1 t2 t3 : Tok) (l : List UInt8) (hl : AtB b p l) (n : Int) (hn : n = l.length) (tk : Tok)
    (d1 : x ≠ d) (d2 : q ≠ x) (d3 : q ≠ d) :
    Ctr w (kk.heap_1 w.params) (.ref 337) [.ref x, .int n tk] (strLed w x d q b p t1 t2 t3) (fun _ => True)
      (fun _ v h' => (∃ t, v = .bytes l.toArray t) ∧ StrAt w x d q b (p + l.length) t1 t2 h') 6 60 := by
  obtain ⟨e1, e2⟩ := hl.ext
  have e3 : min b.size (p + n.toNat) = p + l.length := by (first | lia | omega)
  have C := read_n w x d q b hb p t1 t2 t3 n tk (by (first | lia | omega)) (by (first | lia | omega)) d1 d2 d3
  rw [e3, e1] at C
  exact C
theorem truthy_cons {prog : Program} {w : World} {A : Around} {E : Value → Shared → Prop} {s : Shared} {c : UInt8} {l : List UInt8} {t : Tok} {Q : Bool → Shared → Prop} (hl : l.length ≤ 1000) (h : Q true { s with toks := s.toks + 1 + 1 }) :
    wpAny (model prog w) A (truthy (.bytes (c :: l).toArray t)) Q E s := by
  refine truthy_bytes (by simp; (first | lia | omega)) ?_
  rw [show (((c :: l).toArray.size : Int) != 0) = true from by simp; (first | lia | omega)]
  exact h
theorem read_uint1 (w : World) (x d q : Addr) (b : Array UInt8) (hb : b.size ≤ 1000000) (p : Nat) (t1 t2 t3 : Tok) (c : UInt8) (hc : AtB b p [c])
    (d1 : x ≠ d) (d2 : q ≠ x) (d3 : q ≠ d) :
    Ctr w (kk.heap_1 w.params) (.ref 67) [.ref x] (strLed w x d q b p t1 t2 t3) (fun _ => True)
      (fun _ v h' => (∃ t, v = .int c.toNat t) ∧ StrAt w x d q b (p + 1) t1 t2 h') 10 100 := by
  have : Fill PySem.Challenge.rw_in0200_01 kk.heap_1 := by k_fill; trivial
  clear this
  obtain ⟨hx, hs⟩ := hc.ext
  replace hx : b.extract p (p + 1) = #[c] := hx
  replace hs : p + 1 ≤ b.size := hs
  refine ctr_enter [(Str.ofString "f", .ref x)] (by k_is) (by k_is) (fun s X => BindsTo.of_eq rfl) (locs rfl) ?_
  intro dp un gd fr base g pp loose mean mg mb s L' h₁ tk st B' X' T' hH hpre hdp hun hg F' N' hlt
  (repeat' ((fail_if_success (with_reducible show wpAny _ _ (call (Value.ref 337) _) _ _ _)); first | (k_unfold; (try dsimp only)) | (k_end; kc_close) | walk1 | (dsimp only; walk1) | (leave1; (try dsimp only))))
  rename Fr _ _ _ _ => aF; rename News _ _ _ _ => aN
  refine' stream_use (rest := []) (read_at w x d q b hb p t1 t2 t3 [c] hc _ rfl _ d1 d2 d3) B' aF X' aN T' rfl rfl (fun _ h => nomatch h) ?c1 ?c2 ?_
  (case c1 => (try dsimp only [arr]); (first | lia | omega))
  (case c2 => (try dsimp only [arr]); (first | lia | omega))
  clear aF aN
  rintro v' h' tk' t3' F' N' ⟨tv, rfl⟩
  (repeat' ((fail_if_success (with_reducible show wpAny _ _ (truthy (Value.bytes _ _)) _ _ _)); first | (k_unfold; (try dsimp only)) | (k_end; kc_close) | walk1 | (dsimp only; walk1) | (leave1; (try dsimp only))))
  refine truthy_cons (l := []) (Nat.zero_le _) ?_
  k_steps
  dsimp only
  rename Fr _ _ _ _ => F1; rename News _ _ _ _ => N1
  exact DoneC.intro F1 ⟨⟨_, rfl⟩, StrAt.of (rest := []) N1⟩
theorem len_list {prog : Program} {w : World} {A : Around} {E : Value → Shared → Prop} {s : Shared} {l : List UInt8} {t : Tok} {Q : Value → Shared → Prop} (hl : l.length ≤ 1000) (h : Q (.int l.length (s.toks + 1)) { s with toks := s.toks + 1 + 1 }) :
    wpAny (model prog w) A (call (.builtin "len") [.bytes l.toArray t]) Q E s := len_bytes (b := l.toArray) (by simp; (first | lia | omega)) (by rw [List.size_toArray]; exact h)
local macro_rules | `(tactic| walk_at "ite") => `(tactic| (k_here; (rw [if_pos (show (((_ : Int) == _) = true) from by rw [beq_iff_eq]; (first | lia | omega))])))
theorem read_bytes1 (w : World) (x d q : Addr) (b : Array UInt8) (hb : b.size ≤ 1000000) (p : Nat) (t1 t2 t3 : Tok) (c : UInt8) (l : List UInt8) (hcl : c.toNat = l.length) (hl : l.length ≤ 5) (hc : AtB b p (c :: l))
    (d1 : x ≠ d) (d2 : q ≠ x) (d3 : q ≠ d) :
    Ctr w (kk.heap_1 w.params) (.ref 81) [.ref x] (strLed w x d q b p t1 t2 t3) (fun _ => True)
      (fun _ v h' => (∃ t, v = .bytes l.toArray t) ∧ StrAt w x d q b (p + 1 + l.length) t1 t2 h') 20 200 := by
  have : Fill PySem.Challenge.rw_in0200_01 kk.heap_1 := by k_fill; trivial
  clear this
  have hc1 := hc.head
  have hc2 : AtB b (p + 1) l := hc.tail
  refine ctr_enter [(Str.ofString "f", .ref x)] (by k_is) (by k_is) (fun s X => BindsTo.of_eq rfl) (locs rfl) ?_
  intro dp un gd fr base g pp loose mean mg mb s L' h₁ tk st B' X' T' hH hpre hdp hun hg F' N' hlt
  clear hc
  (repeat' ((fail_if_success (with_reducible show wpAny _ _ (call (Value.ref 67) _) _ _ _)); first | (k_unfold; (try dsimp only)) | (k_end; kc_close) | walk1 | (dsimp only; walk1) | (leave1; (try dsimp only))))
  rename Fr _ _ _ _ => aF; rename News _ _ _ _ => aN
  refine' stream_use (rest := []) (read_uint1 w x d q b hb p t1 t2 t3 c hc1 d1 d2 d3) B' aF X' aN T' rfl rfl (fun _ h => nomatch h) ?c1 ?c2 ?_
  (case c1 => (try dsimp only [arr]); (first | lia | omega))
  (case c2 => (try dsimp only [arr]); (first | lia | omega))
  clear aF aN
  rintro v' h' tk' t3' F' N' ⟨tv, rfl⟩
  (repeat' ((fail_if_success (with_reducible show wpAny _ _ (call (Value.ref 337) _) _ _ _)); first | (k_unfold; (try dsimp only)) | (k_end; kc_close) | walk1 | (dsimp only; walk1) | (leave1; (try dsimp only))))
  rename Fr _ _ _ _ => aF; rename News _ _ _ _ => aN
  refine' stream_use (rest := []) (read_at w x d q b hb (p + 1) t1 t2 _ l hc2 _ (by rw [hcl]) _ d1 d2 d3) B' aF X' aN T' rfl rfl (fun _ h => nomatch h) ?c1 ?c2 ?_
  (case c1 => (try dsimp only [arr]); (first | lia | omega))
  (case c2 => (try dsimp only [arr]); (first | lia | omega))
  clear aF aN
  rintro v' h' tk' t4' F' N' ⟨tv, rfl⟩
  (repeat' ((fail_if_success (with_reducible show wpAny _ _ (call (Value.builtin "len") _) _ _ _)); first | (k_unfold; (try dsimp only)) | (k_end; kc_close) | walk1 | (dsimp only; walk1) | (leave1; (try dsimp only))))
  refine len_list (by (first | lia | omega)) ?_
  k_steps
  dsimp only
  rename Fr _ _ _ _ => F1; rename News _ _ _ _ => N1
  exact DoneC.intro F1 ⟨⟨_, rfl⟩, StrAt.of (rest := []) N1⟩
theorem read_string1 (w : World) (x d q : Addr) (b : Array UInt8) (hb : b.size ≤ 1000000) (p : Nat) (t1 t2 t3 : Tok) (c : UInt8) (l : List UInt8) (hcl : c.toNat = l.length) (hl : l.length ≤ 5) (hc : AtB b p (c :: l))
    (d1 : x ≠ d) (d2 : q ≠ x) (d3 : q ≠ d) :
    Ctr w (kk.heap_1 w.params) (.ref 74) [.ref x] (strLed w x d q b p t1 t2 t3) (fun _ => True)
      (fun _ v h' => (∃ t, v = .str (latStr l) t) ∧ StrAt w x d q b (p + 1 + l.length) t1 t2 h') 20 200 := by
  have : Fill PySem.Challenge.rw_in0200_01 kk.heap_1 := by k_fill; trivial
  clear this
  have hc1 := hc.head
  have hc2 : AtB b (p + 1) l := hc.tail
  refine ctr_enter [(Str.ofString "f", .ref x)] (by k_is) (by k_is) (fun s X => BindsTo.of_eq rfl) (locs rfl) ?_
  intro dp un gd fr base g pp loose mean mg mb s L' h₁ tk st B' X' T' hH hpre hdp hun hg F' N' hlt
  clear hc
  (repeat' ((fail_if_success (with_reducible show wpAny _ _ (call (Value.ref 67) _) _ _ _)); first | (k_unfold; (try dsimp only)) | (k_end; kc_close) | walk1 | (dsimp only; walk1) | (leave1; (try dsimp only))))
  rename Fr _ _ _ _ => aF; rename News _ _ _ _ => aN
  refine' stream_use (rest := []) (read_uint1 w x d q b hb p t1 t2 t3 c hc1 d1 d2 d3) B' aF X' aN T' rfl rfl (fun _ h => nomatch h) ?c1 ?c2 ?_
  (case c1 => (try dsimp only [arr]); (first | lia | omega))
  (case c2 => (try dsimp only [arr]); (first | lia | omega))
  clear aF aN
  rintro v' h' tk' t3' F' N' ⟨tv, rfl⟩
  (repeat' ((fail_if_success (with_reducible show wpAny _ _ (call (Value.ref 337) _) _ _ _)); first | (k_unfold; (try dsimp only)) | (k_end; kc_close) | walk1 | (dsimp only; walk1) | (leave1; (try dsimp only))))
  rename Fr _ _ _ _ => aF; rename News _ _ _ _ => aN
  refine' stream_use (rest := []) (read_at w x d q b hb (p + 1) t1 t2 _ l hc2 _ (by rw [hcl]) _ d1 d2 d3) B' aF X' aN T' rfl rfl (fun _ h => nomatch h) ?c1 ?c2 ?_
  (case c1 => (try dsimp only [arr]); (first | lia | omega))
  (case c2 => (try dsimp only [arr]); (first | lia | omega))
  clear aF aN
  rintro v' h' tk' t4' F' N' ⟨tv, rfl⟩
  (repeat' ((fail_if_success (with_reducible show wpAny _ _ (call (Value.builtin "len") _) _ _ _)); first | (k_unfold; (try dsimp only)) | (k_end; kc_close) | walk1 | (dsimp only; walk1) | (leave1; (try dsimp only))))
  refine len_list (by (first | lia | omega)) ?_
  (repeat' ((fail_if_success (with_reducible show wpAny _ _ (call (Value.builtin "bytes.decode") _) _ _ _)); first | (k_unfold; (try dsimp only)) | (k_end; kc_close) | walk1 | (dsimp only; walk1) | (leave1; (try dsimp only))))
  refine lat_decode hl fun t' k' => ?_
  k_steps
  rename Fr _ _ _ _ => F1; rename News _ _ _ _ => N1
  exact DoneC.intro F1 ⟨⟨_, rfl⟩, StrAt.of (rest := []) N1⟩
end Mine
end
section
open PySem PySem.W PySem.Spec PySem.Calls PyProof.Rows
namespace Mine
set_option maxRecDepth 100000
set_option maxHeartbeats 1000000
theorem slot_type_ne : Slot "type" (cmpInfo .NotEq).2.1 "object.__ne__" :=
  .of (owner := "object") (n := "__ne__") (by rw [typeLookup_type, builtinLookup_eq_fast]; kernel_rfl) (by decide +kernel) (by decide +kernel) (by decide +kernel)
    (by first | exact .inl (by decide +kernel) | exact .inr (by decide +kernel)) (by rw [isSubtype_type]; kernel_rfl)
section
variable {prog : Program} {w : World} {A : Around} {E : Value → Shared → Prop} {s : Shared} {Q : Value → Shared → Prop}
theorem ne_type_same {X : String} (hX : ∀ s' : Shared, s'.TypeIs (.type X) "type") (h : Q (.bool false) s) : wpAny (model prog w) A (compareOp .NotEq (.type X) (.type X)) Q E s := by
  show wpAny _ A (richCompare .NotEq _ _) Q E s
  refine wpAny_richCompare_same (T := "type") (hX s) (hX s) slot_type_ne (wpAny_call_entry slot_type_ne (hX s) F.entry_object_ne ?_ (F.args_object_ne_2 _ _))
  unfold Builtin.«object.__ne__»
  refine wpAny_bind (wpAny_of_eq (a := (.type X, [.type X])) rfl ?_)
  dsimp only
  refine wpAny_bind (wpAny_cRoomFor_or (.inl rfl) ?_)
  refine wpAny_bind ?_
  refine wpAny_callSpecialIfBound?_slot (name := Str.ofString "__eq__") (hX s) TypeEq.slot_type_eq ?_
  refine call_gives TypeEq.slot_type_eq (hX s) F.entry_object_eq (F.args_object_eq_2 _ _) (TypeEq.object_eq_same rfl (by simp)) ?_
  refine wpAny_bind (wpAny_truthy_bool ?_)
  exact wpAny_pure ⟨_, rfl, (by intro e; cases e), h⟩
end
end Mine
end
section
open PySem PySem.W PySem.Spec PySem.Calls PyProof.Rows
namespace Mine
set_option maxRecDepth 100000
set_option maxHeartbeats 1000000
section
variable {prog : Program} {w : World} {A : Around} {E : Value → Shared → Prop} {s : Shared} {h₀ : Heap} {L a : Addr} {news : Led} {Q : Value → Shared → Prop} {value slice : Expr} {u : Tok}
theorem item_last {vs : List Value} {pre : List Int} {r : Int} {c : Nat} (N : News h₀ L s.heap news) (hm : (a, W.listOf vs.toArray c) ∈ news) (hI : IntsAre vs (pre ++ [r])) (hlen : pre.length ≤ 1000) (h : ∀ t, Q (.int r t) s)
    (hs : subscripted slice false (.ref a) (.int (-1) u) = operate [.ref a, .int (-1) u] (getItem (.ref a) (.int (-1) u))) : wpAny (model prog w) A (subscriptTail value slice (.ref a) (.int (-1) u)) Q E s := by
  have hl : s.heap.IsList a vs.toArray := ⟨_, (N _ hm).1, rfl, _, rfl⟩
  have hsz : vs.toArray.size = pre.length + 1 := by rw [List.size_toArray, hI.length]; simp
  obtain ⟨t, ht⟩ := hI.get pre.length r (by simp)
  refine tail_any hl.typeIs slot_list_getitem.lookup (wpAny_getItem_list_neg hl (by decide) (by rw [hsz]; (first | lia | omega)) (by decide) ?_ (h t)) hs
  rw [hsz, show ((-1 : Int) + ((pre.length + 1 : Nat) : Int)).toNat = pre.length by (first | lia | omega)]
  simpa using ht
theorem item_ref {D : List Addr} {c : Nat} {k : Int} (N : News h₀ L s.heap news) (hm : (a, W.listOf (refs D) c) ∈ news) (h0 : 0 ≤ k) (h1 : k < D.length) (hfit : D.length ≤ 1000) (h : Q (.ref (D.getD k.toNat 0)) s)
    (hs : subscripted slice false (.ref a) (.int k u) = operate [.ref a, .int k u] (getItem (.ref a) (.int k u))) : wpAny (model prog w) A (subscriptTail value slice (.ref a) (.int k u)) Q E s :=
  tail_any (News.isList N hm).typeIs slot_list_getitem.lookup (wpAny_getItem_list (News.isList N hm) h0 (by (first | lia | omega)) (refs_get (by (first | lia | omega))) h) hs
theorem tup4_at {v0 v1 v2 v3 v : Value} {k : Int} (N : News h₀ L s.heap news) (hm : (a, tup4 v0 v1 v2 v3) ∈ news) (h0 : 0 ≤ k) (h1 : k < 4) (hv : (#[v0, v1, v2, v3] : Array Value)[k.toNat]? = some v) (h : Q v s)
    (hs : subscripted slice false (.ref a) (.int k u) = operate [.ref a, .int k u] (getItem (.ref a) (.int k u))) : wpAny (model prog w) A (subscriptTail value slice (.ref a) (.int k u)) Q E s := by
  have ht : IsTup s.heap a #[v0, v1, v2, v3] := ⟨_, (N _ hm).1, rfl, _, rfl⟩
  exact tail_any ht.typeIs slot_tuple_getitem.lookup (getItem_tuple ht (by (first | lia | omega)) (by (first | lia | omega)) (seqIndex_of h0 h1) hv h) hs
theorem tup4_3 {v0 v1 v2 v3 : Value} (N : News h₀ L s.heap news) (hm : (a, tup4 v0 v1 v2 v3) ∈ news) (h : Q v3 s)
    (hs : subscripted slice false (.ref a) (.int 3 u) = operate [.ref a, .int 3 u] (getItem (.ref a) (.int 3 u))) : wpAny (model prog w) A (subscriptTail value slice (.ref a) (.int 3 u)) Q E s :=
  tup4_at N hm (by decide) (by decide) rfl h hs
end
end Mine
end
section
open PySem PySem.W PySem.Spec PySem.Calls PyProof.Rows
namespace Mine
set_option maxRecDepth 100000
set_option maxHeartbeats 4000000
def rootOf (es : List Int) (k : Nat) : Int := (rowF es k k).getLastD 0
def numOf (ns : List Int) (k : Nat) : Int := if 2 < k then ns.getD (k - 3) 0 else 66059
abbrev dMap (na sh to el it wr : Addr) (u1 u2 u3 : Option Value) : Str → Option Value := fun y =>
  if y = Str.ofString "octets" then u3 else if y = Str.ofString "value" then u2 else if y = Str.ofString "k" then u1 else if y = Str.ofString "written" then some (.ref wr) else if y = Str.ofString "items" then some (.ref it) else
  if y = Str.ofString "elder" then some (.ref el) else if y = Str.ofString "told" then some (.ref to) else if y = Str.ofString "shelf" then some (.ref sh) else List.lookup y (List.reverse [(Str.ofString "numbers", Value.ref na)])
theorem dMap_start {na sh to el it wr : Addr} : (fun y => if y = Str.ofString "written" then some (.ref wr) else if y = Str.ofString "items" then some (.ref it) else
  if y = Str.ofString "elder" then some (.ref el) else if y = Str.ofString "told" then some (.ref to) else if y = Str.ofString "shelf" then some (.ref sh) else List.lookup y (List.reverse [(Str.ofString "numbers", Value.ref na)])) = dMap na sh to el it wr none none none := by
  funext y
  unfold dMap
  by_cases h1 : y = Str.ofString "octets"
  · subst h1; rfl
  · simp only [if_neg h1]
    by_cases h2 : y = Str.ofString "value"
    · subst h2; rfl
    · simp only [if_neg h2]
      by_cases h3 : y = Str.ofString "k"
      · subst h3; rfl
      · simp only [if_neg h3]
theorem dMap_turn {na sh to el it wr : Addr} {u1 u2 u3 v1 v2 v3 : Option Value} : (fun y => if y = Str.ofString "octets" then v3 else if y = Str.ofString "value" then v2 else if y = Str.ofString "k" then v1 else dMap na sh to el it wr u1 u2 u3 y) = dMap na sh to el it wr v1 v2 v3 := by
  funext y
  unfold dMap
  by_cases h1 : y = Str.ofString "octets"
  · simp only [if_pos h1]
  · simp only [if_neg h1]
    by_cases h2 : y = Str.ofString "value"
    · simp only [if_pos h2]
    · simp only [if_neg h2]
      by_cases h3 : y = Str.ofString "k"
      · simp only [if_pos h3]
      · simp only [if_neg h3]
/-- what the first loop has made -/
def DJ (ns : List Int) (na sh to el it wr : Addr) (fx : Led) (i : Nat) (m : Str → Option Value) (news : Led) : Prop :=
  ∃ (iv : List Value) (ws : List (Array UInt8 × Tok)) (t0 : Tok) (ci cw : Nat) (u1 u2 u3 : Option Value), iv.length = i ∧ ws.length = i ∧ (∀ j < i, ItemVal (rootOf (eldersOf ns) j) (numOf ns j) (iv.getD j .none)) ∧
    (∀ j < i, (ws.getD j (#[], 0)).1 = (itemOct (rootOf (eldersOf ns) j) (numOf ns j)).toArray) ∧
    news = (wr, W.listOf (bVals ((#[97, 104, 101, 97, 100], t0) :: ws)).toArray cw) :: (it, W.listOf iv.toArray ci) :: fx ∧ m = dMap na sh to el it wr u1 u2 u3
abbrev fxLed (a sh to el : Addr) (D T : List Addr) (E : List Value) (c1 c2 c3 : Nat) (led : Led) : Led :=
  (a, ({ cls := .type "tuple", data := .seq #[.ref sh, .ref to, .ref el] } : Obj)) :: (sh, W.listOf (refs D) c1) :: (to, W.listOf (refs T) c2) :: (el, W.listOf E.toArray c3) :: led
theorem d_start {g h : Heap} {L na sh to el it wr : Addr} {fx : Led} {t0 : Tok} (F : Fr g L h (fun y => if y = Str.ofString "written" then some (.ref wr) else if y = Str.ofString "items" then some (.ref it) else
  if y = Str.ofString "elder" then some (.ref el) else if y = Str.ofString "told" then some (.ref to) else if y = Str.ofString "shelf" then some (.ref sh) else List.lookup y (List.reverse [(Str.ofString "numbers", Value.ref na)])))
    (N : News g L h ((wr, W.listOf #[.bytes #[97, 104, 101, 97, 100] t0] 0) :: (it, W.listOf #[] 0) :: fx)) :
    ∃ (wr it : Addr) (t0 : Tok), Fr g L h (dMap na sh to el it wr none none none) ∧ News g L h ((wr, W.listOf (bVals [(#[97, 104, 101, 97, 100], t0)]).toArray 0) :: (it, W.listOf ([] : List Value).toArray 0) :: fx) :=
  ⟨wr, it, t0, dMap_start ▸ F, N⟩
theorem range_size (n : Nat) : Builtin.Range.rangeSize 0 n 1 = (n : Int) := by
  unfold Builtin.Range.rangeSize
  rw [if_pos (by decide)]
  by_cases h : (0 : Int) < n
  · rw [if_pos h, Int.ediv_one]; (first | lia | omega)
  · rw [if_neg h]; (first | lia | omega)
theorem range_small (n : Nat) (h : n ≤ 1000) : Builtin.Range.small 0 n 1 = true := by
  exact small_one (by decide) (by decide) (by (first | lia | omega)) (by (first | lia | omega))
theorem row_root (es : List Int) (k : Nat) : ∃ pre, rowF es k k = pre ++ [rootOf es k] := by
  unfold rootOf
  obtain ⟨t, e⟩ := rowF_head es k (k : Int)
  rw [e]
  refine ⟨((k : Int) :: t).dropLast, ?_⟩
  rw [List.getLastD_eq_getLast?, List.getLast?_eq_some_getLast (List.cons_ne_nil _ _)]
  exact (List.dropLast_concat_getLast (List.cons_ne_nil _ _)).symm
theorem root_three {ns : List Int} {k : Nat} (h : k < 3 + ns.length) : rootOf (eldersOf ns) k = 0 ∨ rootOf (eldersOf ns) k = 1 ∨ rootOf (eldersOf ns) k = 2 := by
  have ho := eldersOk ns
  have hr := rowF_ok ho k k (by (first | lia | omega)) (by rw [eldersOf_length]; (first | lia | omega)) (by (first | lia | omega))
  obtain ⟨pre, e⟩ := row_root (eldersOf ns) k
  have ha := hr.at_ pre.length (by rw [e]; simp)
  have e2 : (rowF (eldersOf ns) k k).getD pre.length 0 = rootOf (eldersOf ns) k := by rw [e]; simp
  rw [e2] at ha
  obtain ⟨a, b, -, c⟩ := ha
  have c := c (by rw [e]; simp)
  rw [eldersOf_length] at b
  by_cases q : rootOf (eldersOf ns) k < 3
  · (first | lia | omega)
  · exfalso
    obtain ⟨j, hj⟩ : ∃ j : Nat, rootOf (eldersOf ns) k = ((j + 3 : Nat) : Int) := ⟨(rootOf (eldersOf ns) k).toNat - 3, by (first | lia | omega)⟩
    rw [hj, Int.toNat_natCast, eldersOf_at, List.getElem?_eq_getElem (by (first | lia | omega))] at c
    exact c (Int.fmod_nonneg_of_pos _ (by (first | lia | omega)))
theorem d_off {g h : Heap} {L a sh to el it wr : Addr} {D T : List Addr} {E : List Value} {c1 c2 c3 : Nat} {led : Led} {t0 : Tok} (hD : 3 ≤ (refs D).size) (hT : 3 ≤ (refs T).size) (hE : 3 ≤ E.length) (hcl : ∀ p ∈ led, p.2.cls ≠ .type "list")
    (N : News g L h ((wr, W.listOf (bVals [(#[97, 104, 101, 97, 100], t0)]).toArray 0) :: (it, W.listOf ([] : List Value).toArray 0) :: fxLed a sh to el D T E c1 c2 c3 led)) :
    it ≠ wr ∧ ∀ p ∈ fxLed a sh to el D T E c1 c2 c3 led, p.1 ≠ it ∧ p.1 ≠ wr := by
  have hw := (N _ (.head _)).1
  have hi := (N _ (.tail _ (.head _))).1
  dsimp only at hw hi
  have key : ∀ p ∈ fxLed a sh to el D T E c1 c2 c3 led, p.2 ≠ W.listOf ([] : List Value).toArray 0 ∧ p.2 ≠ W.listOf (bVals [(#[97, 104, 101, 97, 100], t0)]).toArray 0 := by
    have lst : ∀ (x y : Array Value) (c : Nat), x.size ≠ y.size → W.listOf x c ≠ W.listOf y 0 := fun x y c hn e => by
      have := congrArg Obj.data e
      simp only [Data.seq.injEq] at this
      exact hn (by rw [this.1])
    have s0 : ([] : List Value).toArray.size = 0 := rfl
    have s1 : (bVals [((#[97, 104, 101, 97, 100] : Array UInt8), t0)]).toArray.size = 1 := rfl
    intro p hp
    rcases List.mem_cons.mp hp with rfl | hp
    · exact ⟨fun e => absurd (Value.type.inj (congrArg Obj.cls e)) (by decide), fun e => absurd (Value.type.inj (congrArg Obj.cls e)) (by decide)⟩
    · rcases List.mem_cons.mp hp with rfl | hp
      · exact ⟨lst _ _ _ (by rw [s0]; (first | lia | omega)), lst _ _ _ (by rw [s1]; (first | lia | omega))⟩
      · rcases List.mem_cons.mp hp with rfl | hp
        · exact ⟨lst _ _ _ (by rw [s0]; (first | lia | omega)), lst _ _ _ (by rw [s1]; (first | lia | omega))⟩
        · rcases List.mem_cons.mp hp with rfl | hp
          · exact ⟨lst _ _ _ (by rw [s0, List.size_toArray]; (first | lia | omega)), lst _ _ _ (by rw [s1, List.size_toArray]; (first | lia | omega))⟩
          · exact ⟨fun e => hcl p hp (congrArg Obj.cls e), fun e => hcl p hp (congrArg Obj.cls e)⟩
  refine ⟨fun e => ?_, fun p hp => ⟨fun e => ?_, fun e => ?_⟩⟩
  · rw [e, hw] at hi
    have := congrArg Obj.data (Option.some.inj hi)
    simp [bVals] at this
  · have h1 := (N p (.tail _ (.tail _ hp))).1
    rw [e, hi] at h1
    exact (key p hp).1 (Option.some.inj h1).symm
  · have h1 := (N p (.tail _ (.tail _ hp))).1
    rw [e, hw] at h1
    exact (key p hp).2 (Option.some.inj h1).symm
theorem last_getD (pre : List Int) (r : Int) : List.getD (pre ++ [r]) (Int.toNat (-1 + ((pre ++ [r]).length : Int))) 0 = r := by
  have : Int.toNat (-1 + ((pre ++ [r]).length : Int)) = pre.length := by simp; (first | lia | omega)
  rw [this]
  simp
theorem dj_more {ns : List Int} {na sh to el it wr : Addr} {fx : Led} {i : Nat} {iv : List Value} {ws : List (Array UInt8 × Tok)} {t0 tb : Tok} {ci cw : Nat} {u1 u2 u3 v1 v2 v3 : Option Value} {val : Value} {m : Str → Option Value}
    (hiv : iv.length = i) (hws : ws.length = i) (hI1 : ∀ j < i, ItemVal (rootOf (eldersOf ns) j) (numOf ns j) (iv.getD j .none)) (hW1 : ∀ j < i, (ws.getD j (#[], 0)).1 = (itemOct (rootOf (eldersOf ns) j) (numOf ns j)).toArray)
    (hval : ItemVal (rootOf (eldersOf ns) i) (numOf ns i) val) (hm : m = (fun y => if y = Str.ofString "octets" then v3 else if y = Str.ofString "value" then v2 else if y = Str.ofString "k" then v1 else dMap na sh to el it wr u1 u2 u3 y)) :
    DJ ns na sh to el it wr fx (i + 1) m ((wr, W.listOf ((bVals ((#[97, 104, 101, 97, 100], t0) :: ws)).toArray.push (.bytes (itemOct (rootOf (eldersOf ns) i) (numOf ns i)).toArray tb)) (cw + 1)) :: (it, W.listOf (iv.toArray.push val) (ci + 1)) :: fx) := by
  refine ⟨iv ++ [val], ws ++ [((itemOct (rootOf (eldersOf ns) i) (numOf ns i)).toArray, tb)], t0, ci + 1, cw + 1, v1, v2, v3, by simp [hiv], by simp [hws], fun j hj => ?_, fun j hj => ?_, ?_, by rw [hm]; exact dMap_turn⟩
  · rcases Nat.lt_or_eq_of_le (Nat.le_of_lt_succ hj) with h | rfl
    · rw [getD_snoc_lt (by (first | lia | omega))]; exact hI1 j h
    · subst hiv; rw [getD_snoc_len]; exact hval
  · rcases Nat.lt_or_eq_of_le (Nat.le_of_lt_succ hj) with h | rfl
    · rw [getD_snoc_lt (by (first | lia | omega))]; exact hW1 j h
    · subst hws; rw [getD_snoc_len]
  · simp [bVals]
theorem fx_cls {a sh to el : Addr} {D T : List Addr} {es : List Int} {E : List Value} {c1 c2 c3 : Nat} {led : Led} (S : ShelfLed D T es led) : ∀ p ∈ fxLed a sh to el D T E c1 c2 c3 led, p.2.cls ≠ .type "range_iterator" := by
  intro p hp
  rcases List.mem_cons.mp hp with rfl | hp
  · k_cls
  · rcases List.mem_cons.mp hp with rfl | hp
    · k_cls
    · rcases List.mem_cons.mp hp with rfl | hp
      · k_cls
      · rcases List.mem_cons.mp hp with rfl | hp
        · k_cls
        · exact (S.cls p hp).2.2
theorem list_cls {fx : Led} {x y : Addr} {v w : Array Value} {c d : Nat} (h : ∀ p ∈ fx, p.2.cls ≠ .type "range_iterator") : ∀ p ∈ (x, W.listOf v c) :: (y, W.listOf w d) :: fx, p.2.cls ≠ .type "range_iterator" := by
  intro p hp
  rcases List.mem_cons.mp hp with rfl | hp
  · k_cls
  · rcases List.mem_cons.mp hp with rfl | hp
    · k_cls
    · exact h p hp
/-- the octets of the item of a descriptor -/
def octOf (ns : List Int) (j : Nat) : List UInt8 := itemOct (rootOf (eldersOf ns) j) (numOf ns j)
def octsTo (ns : List Int) (k : Nat) : List UInt8 := ((List.range k).map (octOf ns)).flatten
theorem oct_list {ns : List Int} {n : Nat} {ws : List (Array UInt8 × Tok)} (hws : ws.length = n) (hW : ∀ j < n, (ws.getD j (#[], 0)).1 = (itemOct (rootOf (eldersOf ns) j) (numOf ns j)).toArray) : (ws.map (fun x => x.1.toList)).flatten = octsTo ns n := by
  unfold octsTo
  congr 1
  apply List.ext_getElem
  · simp [hws]
  · intro j h1 h2
    simp at h1 h2
    have := hW j (by (first | lia | omega))
    rw [List.getD_eq_getElem?_getD, List.getElem?_eq_getElem h1] at this
    simp only [List.getElem_map, List.getElem_range]
    rw [show ws[j].1 = (itemOct (rootOf (eldersOf ns) j) (numOf ns j)).toArray from this]
    rfl
theorem octOf_le (ns : List Int) (j : Nat) : (octOf ns j).length ≤ 6 := by
  unfold octOf itemOct
  split
  · simp
  · have := octs_le (numOf ns j)
    simp only [List.length_cons]
    (first | lia | omega)
theorem octsTo_succ (ns : List Int) (k : Nat) : octsTo ns (k + 1) = octsTo ns k ++ octOf ns k := by
  unfold octsTo
  rw [List.range_succ, List.map_append, List.flatten_append]
  simp
theorem oct_len (ns : List Int) : ∀ k, (octsTo ns k).length ≤ k * 6
  | 0 => Nat.le_refl _
  | k + 1 => by
    rw [octsTo_succ, List.length_append]
    have := oct_len ns k
    have := octOf_le ns k
    (first | lia | omega)
theorem new_off {g h : Heap} {L x d q : Addr} {fx : Led} (N : News g L h fx) (nx : h.get? x = none) (nd : h.get? d = none) (nq : h.get? q = none) : ∀ p ∈ fx, p.1 ≠ x ∧ p.1 ≠ d ∧ p.1 ≠ q := fun p hp => by
  have h1 := (N p hp).1
  refine ⟨fun e => ?_, fun e => ?_, fun e => ?_⟩
  · rw [e, nx] at h1; cases h1
  · rw [e, nd] at h1; cases h1
  · rw [e, nq] at h1; cases h1
abbrev lVars : List Str := [Str.ofString "k", Str.ofString "row", Str.ofString "pair", Str.ofString "found", Str.ofString "parent", Str.ofString "value", Str.ofString "m", Str.ofString "part", Str.ofString "path", Str.ofString "due"]
/-- a map of names: the loop's own are u's, the others base's -/
abbrev eMap (base u : Str → Option Value) : Str → Option Value := fun y =>
  if y = Str.ofString "k" then u y else if y = Str.ofString "row" then u y else if y = Str.ofString "pair" then u y else if y = Str.ofString "found" then u y else if y = Str.ofString "parent" then u y else
  if y = Str.ofString "value" then u y else if y = Str.ofString "m" then u y else if y = Str.ofString "part" then u y else if y = Str.ofString "path" then u y else if y = Str.ofString "due" then u y else base y
def Agree (base m : Str → Option Value) : Prop := ∀ y, y ∉ lVars → m y = base y
theorem agree_map {base m : Str → Option Value} (h : Agree base m) : m = eMap base m := by
  funext y
  unfold eMap
  split
  · rfl
  split
  · rfl
  split
  · rfl
  split
  · rfl
  split
  · rfl
  split
  · rfl
  split
  · rfl
  split
  · rfl
  split
  · rfl
  split
  · rfl
  refine h y ?_
  simp only [List.mem_cons, List.not_mem_nil, or_false, not_or]
  exact ⟨by assumption, by assumption, by assumption, by assumption, by assumption, by assumption, by assumption, by assumption, by assumption, by assumption⟩
theorem octs_split (ns : List Int) {i : Nat} : ∀ {n : Nat}, i < n → ∃ post, octsTo ns n = octsTo ns i ++ (octOf ns i ++ post)
  | 0, h => absurd h (Nat.not_lt_zero _)
  | n + 1, h => by
    rcases Nat.lt_or_eq_of_le (Nat.le_of_lt_succ h) with h | rfl
    · obtain ⟨post, e⟩ := octs_split ns h
      refine ⟨post ++ octOf ns n, ?_⟩
      rw [octsTo_succ, e]
      simp
    · exact ⟨[], by rw [octsTo_succ]; simp⟩
theorem oct_at {ns : List Int} {b : Array UInt8} {n i : Nat} (hb : b = ([97, 104, 101, 97, 100] ++ octsTo ns n).toArray) (h : i < n) : AtB b (5 + (octsTo ns i).length) (octOf ns i) := by
  obtain ⟨post, e⟩ := octs_split ns h
  refine ⟨[97, 104, 101, 97, 100] ++ octsTo ns i, post, ?_, ?_⟩
  · rw [hb, e]; simp
  · rw [List.length_append]; rfl
/-- what the second loop keeps -/
def DK (ns : List Int) (w : World) (x d q : Addr) (b : Array UInt8) (s1 s2 : Tok) (base : Str → Option Value) (rest : Led) (i : Nat) (m : Str → Option Value) (news : Led) : Prop :=
  (∃ t3, news = strLed w x d q b (5 + (octsTo ns i).length) s1 s2 t3 ++ rest) ∧ Agree base m
theorem join_fine9 {ps : List Str} (hl : ps.length ≤ 100) (hp : ∀ p ∈ ps, p ∈ pcs7) : JoinOk (Str.ofString ".") ps = true := by
  have h1 : (Str.ofString ".").length = 1 := by rw [dot_eq]; rfl
  have e : ∀ (l : List Str) (n : Nat), (∀ p ∈ l, p ∈ pcs7) → l.foldl (· + ·.length + (Str.ofString ".").length) n ≤ n + l.length * 9 := by
    intro l
    induction l with
    | nil => intro n _; simp
    | cons p r ih =>
      intro n h
      have h8 := (pcs7_c (h p List.mem_cons_self)).2
      have := ih (n + p.length + (Str.ofString ".").length) fun q hq => h q (List.mem_cons_of_mem _ hq)
      rw [List.foldl_cons, List.length_cons]
      (first | lia | omega)
  have := e ps 0 hp
  unfold JoinOk Builtin.Str.tooLong
  rw [List.foldl_toArray, sizeLine_eq]
  simp only [Bool.not_eq_true', decide_eq_false_iff_not]
  (first | lia | omega)
theorem rep_vals (n : Nat) (t : Tok) : (List.replicate n [Value.str rdr t]).flatten = strValues (List.replicate n (rdr, t)) := by
  induction n with
  | zero => rfl
  | succ n ih => rw [List.replicate_succ, List.flatten_cons, ih]; rfl
theorem rep_path (m : Nat) : List.replicate (m + 1) rdr = rPath m rdr := List.replicate_succ'
theorem rPath_pcs {m : Nat} {p : Str} (hp : p ∈ pcs7) : ∀ q ∈ rPath m p, q ∈ pcs7 := fun q hq => by
  rcases List.mem_append.mp hq with hq | hq
  · rw [List.eq_of_mem_replicate hq]; simp [rdr]
  · rw [List.mem_singleton.mp hq]; exact hp
theorem rdr_pcs : rdr ∈ pcs7 := by simp [rdr]
theorem join_rep {prog : Program} {w : World} {A : Around} {E : Value → Shared → Prop} {s : Shared} {h₀ : Heap} {L D : Addr} {news : Led} {n : Nat} {t tt : Tok} {Q : Value → Shared → Prop} (N : News h₀ L s.heap ((D, W.listOf (strValues (List.replicate (n + 1) (rdr, tt))).toArray 0) :: news)) (hn : n ≤ 90)
    (h : ∀ t' k, Q (.str (Txt.join (Str.ofString ".") (rPath n rdr)) t') { s with toks := k }) : wpAny (model prog w) A (call (.builtin "str.join") [.str (Str.ofString ".") t, .ref D]) Q E s :=
  SC.join (texts := rPath n rdr) ⟨_, (N _ (.head _)).1, rfl, _, rfl⟩ (by rw [List.map_replicate]; exact rep_path n) (join_fine9 (by simp [rPath]; (first | lia | omega)) (rPath_pcs rdr_pcs)) h

end Mine
end
section
open PySem PySem.W PySem.Spec PySem.Calls PyProof.Rows
namespace Mine
set_option maxRecDepth 100000
set_option maxHeartbeats 1000000
theorem u8_nat {i : Int} (h0 : 0 ≤ i) (h1 : i < 256) : ((u8 i).toNat : Int) = i := by
  unfold u8
  have : (Nat.toUInt8 i.toNat).toNat = i.toNat := by
    show i.toNat % 256 = i.toNat
    (first | lia | omega)
  rw [this]
  (first | lia | omega)
theorem latin_join : ∀ l : List UInt8, Txt.join (Str.ofString "") (latin l) = latStr l := by
  intro l
  have e0 : Str.ofString "" = ⟨#[]⟩ := by decide +kernel
  rw [show Txt.join (Str.ofString "") (latin l) = Str.join (Str.ofString "") (latin l) from StrLaws.glued_eq_join _ _, e0]
  induction l with
  | nil => rfl
  | cons c r ih =>
    cases r with
    | nil => rfl
    | cons d r =>
      have : Str.join ⟨#[]⟩ (latin (c :: d :: r)) = (⟨#[c.toNat]⟩ : Str) ++ ⟨#[]⟩ ++ Str.join ⟨#[]⟩ (latin (d :: r)) := rfl
      rw [this, ih]
      apply Str.ext'
      simp [Str.cps_append, latStr]
/-- the reader at a row's end reads the item that is due -/
theorem root_use {w : World} {ns : List Int} {i : Nat} {x d q : Addr} {b : Array UInt8} {p : Nat} {s1 s2 t3 : Tok} (hb : b.size ≤ 1000000) (hat : AtB b p (octOf ns i)) (hrt : rootOf (eldersOf ns) i = 0 ∨ rootOf (eldersOf ns) i = 1 ∨ rootOf (eldersOf ns) i = 2)
    (xd : x ≠ d) (qx : q ≠ x) (qd : q ≠ d) {A₀ : Around} {base h₀ : Heap} {outer : List Env} {env : Env} {L : Addr} {m : Str → Option Value} {s : Shared} {rest : Led} {dp un : Nat} {gd : Option (List Code)}
    {pp : Program} {loose : List Str} {mean : ExcName → Option Value} {mg mb : Str → Option Value} {Q E : Value → Shared → Prop}
    (B : Below A₀ base outer h₀) (F : Fr h₀ L s.heap m) (X : (kk.heap_1 w.params).In h₀) (N : News h₀ L s.heap (strLed w x d q b p s1 s2 t3 ++ rest)) (T : Top pp loose mean mg mb h₀) (hf : env.frame = some L) (hke : env.scope.kind = .function)
    (off : ∀ r ∈ rest, r.1 ≠ x ∧ r.1 ≠ d ∧ r.1 ≠ q) (hd' : dp + 20 < recursionLimit) (hu : un + 200 < cLine)
    (ret : ∀ (v : Value) (h' : Heap) (tk' : Nat) (t3' : Tok), Fr h₀ L h' m → News h₀ L h' (strLed w x d q b (p + (octOf ns i).length) s1 s2 t3' ++ rest) → ItemVal (rootOf (eldersOf ns) i) (numOf ns i) v → Q v { s with heap := h', toks := tk' }) :
    wpAny (model PySem.Challenge.rw_in0200_01.row.prog w) (arr dp un gd (env :: outer)) (call (.ref (rootFn (rootOf (eldersOf ns) i).toNat)) [.ref x]) Q E s := by
  rcases hrt with h | h | h
  · have e : octOf ns i = [u8 ((numOf ns i).fmod 256)] := by unfold octOf itemOct; rw [if_pos h]
    rw [e] at hat ret
    rw [h] at ret ⊢
    refine stream_use (read_uint1 w x d q b hb p s1 s2 t3 _ hat xd qx qd) B F X N T hf hke off (by (first | lia | omega)) (by (first | lia | omega)) fun v h' tk' t3' F' N' hv => ret v h' tk' t3' F' N' ?_
    obtain ⟨t, rfl⟩ := hv
    refine .inl ⟨rfl, t, ?_⟩
    rw [u8_nat (Int.fmod_nonneg_of_pos _ (by decide)) (Int.fmod_lt_of_pos _ (by decide))]
  · have e : octOf ns i = u8 (octs (numOf ns i)).length :: octs (numOf ns i) := by unfold octOf itemOct; rw [if_neg (by rw [h]; decide)]
    have hl := octs_le (numOf ns i)
    have hc : (u8 (octs (numOf ns i)).length).toNat = (octs (numOf ns i)).length := by
      have := u8_nat (i := ((octs (numOf ns i)).length : Int)) (by (first | lia | omega)) (by (first | lia | omega))
      (first | lia | omega)
    rw [e] at hat ret
    rw [h] at ret ⊢
    refine stream_use (read_bytes1 w x d q b hb p s1 s2 t3 _ _ hc hl hat xd qx qd) B F X N T hf hke off (by (first | lia | omega)) (by (first | lia | omega)) fun v h' tk' t3' F' N' hv => ret v h' tk' t3' F' (by rw [List.length_cons]; rw [show p + ((octs (numOf ns i)).length + 1) = p + 1 + (octs (numOf ns i)).length by (first | lia | omega)]; exact N') ?_
    exact .inr (.inl ⟨rfl, hv⟩)
  · have e : octOf ns i = u8 (octs (numOf ns i)).length :: octs (numOf ns i) := by unfold octOf itemOct; rw [if_neg (by rw [h]; decide)]
    have hl := octs_le (numOf ns i)
    have hc : (u8 (octs (numOf ns i)).length).toNat = (octs (numOf ns i)).length := by
      have := u8_nat (i := ((octs (numOf ns i)).length : Int)) (by (first | lia | omega)) (by (first | lia | omega))
      (first | lia | omega)
    rw [e] at hat ret
    rw [h] at ret ⊢
    refine stream_use (read_string1 w x d q b hb p s1 s2 t3 _ _ hc hl hat xd qx qd) B F X N T hf hke off (by (first | lia | omega)) (by (first | lia | omega)) fun v h' tk' t3' F' N' hv => ret v h' tk' t3' F' (by rw [List.length_cons]; rw [show p + ((octs (numOf ns i)).length + 1) = p + 1 + (octs (numOf ns i)).length by (first | lia | omega)]; exact N') ?_
    refine .inr (.inr ⟨rfl, ?_⟩)
    rw [latin_join]
    exact hv
def Same (g : Heap) (L : Addr) (m : Str → Option Value) (news : Led) (s s' : Shared) : Prop := ∃ h' tk', s' = { s with heap := h', toks := tk' } ∧ Fr g L h' m ∧ News g L h' news
theorem merge_test {prog : Program} {w : World} {A : Around} {E : Value → Shared → Prop} {g h : Heap} {L : Addr} {m : Str → Option Value} {news : Led} {s : Shared} {t : Sem Bool} {Q : Bool → Shared → Prop} (F : Fr g L h m) (N : News g L h news)
    (h1 : wpAny (model prog w) A t (fun b s' => b = false ∧ Same g L m news s s') E s) (h2 : ∀ s', Same g L m news s s' → Q false s') : wpAny (model prog w) A t Q E s :=
  wpAny_mono h1 (fun b s' hq => by obtain ⟨rfl, hs⟩ := hq; exact h2 s' hs) fun _ _ x => x
theorem item_iv {prog : Program} {w : World} {A : Around} {E : Value → Shared → Prop} {s : Shared} {h₀ : Heap} {L a : Addr} {news : Led} {Q : Value → Shared → Prop} {value slice : Expr} {u : Tok} {iv : List Value} {c i : Nat} {v : Value}
    (N : News h₀ L s.heap news) (hm : (a, W.listOf iv.toArray c) ∈ news) (hlt : i < iv.length) (hlen : iv.length ≤ 1000) (he : iv.getD i .none = v) (h : Q v s)
    (hs : subscripted slice false (.ref a) (.int i u) = operate [.ref a, .int i u] (getItem (.ref a) (.int i u))) : wpAny (model prog w) A (subscriptTail value slice (.ref a) (.int i u)) Q E s :=
  tail_any (News.isList N hm).typeIs slot_list_getitem.lookup (wpAny_getItem_list (News.isList N hm) (by (first | lia | omega)) (by (first | lia | omega)) (by
    rw [Int.toNat_natCast, ← he]
    simp [List.getD_eq_getElem?_getD, hlt]) h) hs
section
variable {prog : Program} {w : World} {A : Around} {E : Value → Shared → Prop} {s : Shared} {h₀ : Heap} {L a : Addr} {news : Led} {Q : Value → Shared → Prop} {value slice : Expr} {u : Tok}
theorem tup4_0 {v0 v1 v2 v3 : Value} (N : News h₀ L s.heap news) (hm : (a, tup4 v0 v1 v2 v3) ∈ news) (h : Q v0 s)
    (hs : subscripted slice false (.ref a) (.int 0 u) = operate [.ref a, .int 0 u] (getItem (.ref a) (.int 0 u))) : wpAny (model prog w) A (subscriptTail value slice (.ref a) (.int 0 u)) Q E s :=
  tup4_at N hm (by decide) (by decide) rfl h hs
theorem tup4_1 {v0 v1 v2 v3 : Value} (N : News h₀ L s.heap news) (hm : (a, tup4 v0 v1 v2 v3) ∈ news) (h : Q v1 s)
    (hs : subscripted slice false (.ref a) (.int 1 u) = operate [.ref a, .int 1 u] (getItem (.ref a) (.int 1 u))) : wpAny (model prog w) A (subscriptTail value slice (.ref a) (.int 1 u)) Q E s :=
  tup4_at N hm (by decide) (by decide) rfl h hs
theorem tup4_2 {v0 v1 v2 v3 : Value} (N : News h₀ L s.heap news) (hm : (a, tup4 v0 v1 v2 v3) ∈ news) (h : Q v2 s)
    (hs : subscripted slice false (.ref a) (.int 2 u) = operate [.ref a, .int 2 u] (getItem (.ref a) (.int 2 u))) : wpAny (model prog w) A (subscriptTail value slice (.ref a) (.int 2 u)) Q E s :=
  tup4_at N hm (by decide) (by decide) rfl h hs
theorem item_int {vs : List Value} {row : List Int} {c j : Nat} {r : Int} (N : News h₀ L s.heap news) (hm : (a, W.listOf vs.toArray c) ∈ news) (hI : IntsAre vs row) (hr : row.getD j 0 = r) (hj : j < row.length) (hlen : row.length ≤ 1000) (h : ∀ t, Q (.int r t) s)
    (hs : subscripted slice false (.ref a) (.int j u) = operate [.ref a, .int j u] (getItem (.ref a) (.int j u))) : wpAny (model prog w) A (subscriptTail value slice (.ref a) (.int j u)) Q E s := by
  obtain ⟨t, ht⟩ := hI.get j r (by rw [← hr]; simp [List.getD_eq_getElem?_getD, hj])
  exact tail_any (News.isList N hm).typeIs slot_list_getitem.lookup (wpAny_getItem_list (News.isList N hm) (by (first | lia | omega)) (by (first | lia | omega)) (by rw [Int.toNat_natCast]; simpa using ht) (h t)) hs
theorem ne_str_same {x : Str} {t u : Tok} (h : Q (.bool false) s) : wpAny (model prog w) A (compareOp .NotEq (.str x t) (.str x u)) Q E s :=
  P.ne_str (by simpa using h)
theorem ne_int_same {x : Int} {t u : Tok} (h : Q (.bool false) s) : wpAny (model prog w) A (compareOp .NotEq (.int x t) (.int x u)) Q E s :=
  P.ne_int (by simpa using h)
theorem ne_bytes_same {b : Array UInt8} {t u : Tok} (h : Q (.bool false) s) : wpAny (model prog w) A (compareOp .NotEq (.bytes b t) (.bytes b u)) Q E s :=
  ne_bytes (by simpa using h)
theorem join_part {D : Addr} {n : Nat} {p : Str} {t tt tp : Tok} (hp : p ∈ pcs7) (N : News h₀ L s.heap ((D, W.listOf (strValues (List.replicate n (rdr, tt)) ++ [Value.str p tp]).toArray 0) :: news)) (hn : n ≤ 90)
    (h : ∀ t' k, Q (.str (Txt.join (Str.ofString ".") (rPath n p)) t') { s with toks := k }) : wpAny (model prog w) A (call (.builtin "str.join") [.str (Str.ofString ".") t, .ref D]) Q E s :=
  SC.join (l := List.replicate n (rdr, tt) ++ [(p, tp)]) (texts := rPath n p) ⟨_, (N _ (.head _)).1, rfl, 0, by simp [strValues]⟩ (by simp [rPath]) (join_fine9 (by simp [rPath]; (first | lia | omega)) (rPath_pcs hp)) h
end
abbrev lVars3 : List Str := [Str.ofString "m", Str.ofString "part", Str.ofString "path", Str.ofString "found", Str.ofString "parent", Str.ofString "due"]
abbrev eMap3 (base u : Str → Option Value) : Str → Option Value := fun y =>
  if y = Str.ofString "m" then u y else if y = Str.ofString "part" then u y else if y = Str.ofString "path" then u y else if y = Str.ofString "found" then u y else if y = Str.ofString "parent" then u y else
  if y = Str.ofString "due" then u y else base y
def Agree3 (base m : Str → Option Value) : Prop := ∀ y, y ∉ lVars3 → m y = base y
theorem agree_map3 {base m : Str → Option Value} (h : Agree3 base m) : m = eMap3 base m := by
  funext y
  unfold eMap3
  split
  · rfl
  split
  · rfl
  split
  · rfl
  split
  · rfl
  split
  · rfl
  split
  · rfl
  refine h y ?_
  simp only [List.mem_cons, List.not_mem_nil, or_false, not_or]
  exact ⟨by assumption, by assumption, by assumption, by assumption, by assumption, by assumption⟩
end Mine
end
section
open PySem PySem.W PySem.Spec PySem.Calls PyProof.Rows PyProof.V
namespace Mine
set_option maxRecDepth 100000
/-- a turn's end, the iterator told by its address -/
def TEnd2 (h₀ : Heap) (L : Addr) (own : Led) (I : Addr) (Jn : (Str → Option Value) → Led → Prop) (s₁ : Shared) (Q : Flow → Shared → Prop) (f : Flow) (s₂ : Shared) : Prop :=
  match f with
  | .ret v => Q (.ret v) s₂
  | .brk => Q .next s₂
  | _ => ∃ h' tk m' news', s₂ = { s₁ with heap := h', toks := tk } ∧ Fr h₀ L h' m' ∧ News h₀ L h' (own ++ news') ∧ (∀ p ∈ news', p.1 ≠ I) ∧ Jn m' news'
theorem TEnd2.next {h₀ h' : Heap} {L I : Addr} {own : Led} {Jn : (Str → Option Value) → Led → Prop} {s₁ : Shared} {Q : Flow → Shared → Prop} {tk : Nat} {m' : Str → Option Value} (news' : Led)
    (F : Fr h₀ L h' m') (N : News h₀ L h' (own ++ news')) (c : ∀ p ∈ news', p.1 ≠ I) (j : Jn m' news') : TEnd2 h₀ L own I Jn s₁ Q .next { s₁ with heap := h', toks := tk } := ⟨h', tk, m', news', rfl, F, N, c, j⟩
section
variable {prog : Program} {w : World} {A : Around} {E : Value → Shared → Prop} {s : Shared} {env : Env} {h₀ : Heap} {x : Str} {body : List Stmt} {Q : Flow → Shared → Prop}
theorem tend_step2 {L : Addr} {I : Addr} {own own' : Led} {J : (Str → Option Value) → Led → Prop} {s₁ s₂ : Shared} {f : Flow}
    (hsub : ∀ p ∈ own', p ∈ own) (h : TEnd2 h₀ L own I J s₁ Q f s₂) :
    LoopStepV h₀ L [I] own' J s₁ (fun v s' => Q (.ret v) s') (fun s' => Q .next s') f s₂ := by
  have fin : (∃ h' tk m' news', s₂ = { s₁ with heap := h', toks := tk } ∧ Fr h₀ L h' m' ∧ News h₀ L h' (own ++ news') ∧ (∀ p ∈ news', p.1 ≠ I) ∧ J m' news') → LoopStepU h₀ L [I] own' J s₁ .next s₂ := by
    rintro ⟨h', tk, m', news', e, F', N', hc, hj⟩
    refine ⟨rfl, h', tk, m', news', e, F', fun p hp => N' p ?_, fun p hp hq => hc p hp (List.mem_singleton.mp hq), hj⟩
    rcases List.mem_append.mp hp with hp | hp
    · exact List.mem_append_left _ (hsub p hp)
    · exact List.mem_append_right _ hp
  cases f with
  | ret v => exact h
  | brk => exact h
  | next => exact .next (fin h)
  | cont => exact .cont (fin h)
/-- a for over a small range of the call's own -/
theorem iter_range2 {r : Addr} {a₀ b₀ : Int} {t₀ u₀ v₀ : Tok} {n : Nat} {m₀ : Str → Option Value} {news : Led} (J : Nat → (Str → Option Value) → Led → Prop)
    (hh : A.handled = none) (hr : IsRange s.heap r a₀ b₀ 1 t₀ u₀ v₀) (hsmall : Builtin.Range.small a₀ b₀ 1 = true) (hn : Builtin.Range.rangeSize a₀ b₀ 1 = (n : Int)) (F : Fr h₀ env.locals s.heap m₀) (N : News h₀ env.locals s.heap news) (hj : J 0 m₀ news)
    (turn : ∀ i t m₁ news₁ h tk I io, i < n → J i m₁ news₁ → io.cls = .type "range_iterator" → Fr h₀ env.locals h (fun y => if y = x then some (.int (a₀ + (i : Int)) t) else m₁ y) → News h₀ env.locals h ((I, io) :: news₁) →
      (∀ p ∈ news₁, p.1 ≠ I) →
      wpAny (model prog w) A (execs body env) (TEnd2 h₀ env.locals [(I, io)] I (J (i + 1)) { s with heap := h, toks := tk } Q) E { s with heap := h, toks := tk })
    (done : ∀ m₁ news₁ h tk, J n m₁ news₁ → Fr h₀ env.locals h m₁ → News h₀ env.locals h news₁ → Q .next { s with heap := h, toks := tk }) :
    wpAny (model prog w) A (pyIter (.ref r)) (fun it s₂ => LoopAtV prog w A h₀ env x body Q E it s₂) E s := by
  refine wpAny_pyIter_range hr hsmall ?_
  have W : Walks prog w A s.heap.objs.size [s.heap.objs.size] [s.heap.objs.size] n (fun i v => i < n ∧ ∃ t, v = .int (a₀ + i * 1) t)
      (fun i h => IsRangeIter h s.heap.objs.size (a₀ + (i : Nat) * 1) ((n : Int) - (i : Nat)) 1) := (Walks.range hh _ a₀ 1 n).bound
  have hInew : h₀.get? s.heap.objs.size = none := next_is_new F
  refine ⟨_, _, _, n, _, _, m₀, news, J, rfl, W, ?_, ?_, ?_, (by show IsRangeIter _ _ _ _ _; rw [hn]; simpa using Heap.get?_push_size _ rfl), F.push _, (fun p hp => ⟨Heap.get?_push_of_some _ (N p hp).1, (N p hp).2⟩), hj, ?_, ?_⟩
  · intro hm
    exact absurd F.ns.lt ((List.mem_singleton.mp hm) ▸ Nat.lt_irrefl _)
  · intro b hb
    rw [List.mem_singleton.mp hb]
    exact hInew
  · intro p hp hI
    exact absurd (Heap.lt_size (N p hp).1) ((List.mem_singleton.mp hI) ▸ Nat.lt_irrefl _)
  · rintro i v m₁ news₁ s₁ own ⟨hh', tk', rfl⟩ hin ⟨_, t, rfl⟩ hJ hoff hown hget hall hst F₁ N₁
    obtain ⟨io, hio, hioc⟩ : ∃ io, hh'.get? s.heap.objs.size = some io ∧ io.cls = .type "range_iterator" := ⟨_, hst, rfl⟩
    have hmem : (s.heap.objs.size, io) ∈ own := hall _ (.head _) hInew io hio
    have e1 : a₀ + (i : Int) * 1 = a₀ + (i : Int) := by rw [Int.mul_one]
    rw [e1] at F₁
    have N₂ : News h₀ env.locals hh' ((s.heap.objs.size, io) :: news₁) := fun p hp => by
      rcases List.mem_cons.mp hp with rfl | hp
      · exact N₁ _ (List.mem_append_left _ hmem)
      · exact N₁ _ (List.mem_append_right _ hp)
    have hsub : ∀ p ∈ own, p ∈ [(s.heap.objs.size, io)] := fun p hp => by
      have h2 := hget p hp
      have h1 := List.mem_singleton.mp (hown p hp)
      rw [h1, hio] at h2
      exact List.mem_singleton.mpr (Prod.ext h1 (Option.some.inj h2).symm)
    refine wpAny_mono (turn i t m₁ news₁ hh' tk' s.heap.objs.size io hin hJ hioc F₁ N₂ (fun p hp q => hoff p hp (by rw [q]; exact .head _))) (fun f s₂ p => ?_) fun _ _ e => e
    exact tend_step2 hsub p
  · rintro h' tk m' news₁ F' N' _ hJ
    exact done m' news₁ h' tk hJ F' N'
end
end Mine
end
section
open PySem PySem.W PySem.Spec PySem.Calls PyProof.Rows
namespace Mine
set_option maxRecDepth 100000
set_option maxHeartbeats 4000000
theorem filled : Fill PySem.Challenge.rw_in0200_01 kk.heap_1 := by k_fill; trivial
/-- the parts of _law_descriptors_hold -/
noncomputable def pick1 {P : Params} {oc : Value} {od : Option Addr} {osl : Array (Option Value)} {name qual : Str} {params : Arguments} {scope : Scope} {dV kV doc pm cdv ct : Value} {an : Option Addr}
    {s0 s1 s2 s4 s5 s7 : Stmt} {t1 t2 i1 i2 : PySem.Expr} {b1 b2 o1 o2 : List Stmt} {p1 p2 : Pos}
    (_ : (kk.heap_1 P).lookup 688 = some ⟨oc, od, .func (fnOf name qual params [s0, s1, s2, .For t1 i1 b1 o1 p1, s4, s5, .For t2 i2 b2 o2 p2, s7] scope dV kV doc pm an cdv ct), osl⟩) :
    List Stmt × List Stmt × Scope × Str × Value := (b1, b2, scope, qual, cdv)
noncomputable def pick2 {s0 s1 s2 s3 s4 s5 : Stmt} {t2 i2 : PySem.Expr} {b2 o2 : List Stmt} {p2 : Pos} (b : List Stmt) (_ : b = [s0, s1, s2, s3, s4, s5, .For t2 i2 b2 o2 p2]) : List Stmt := b2
noncomputable def dAll (P : Params) := pick1 (P := P) (by k_is)
noncomputable def dBody3 (P : Params) : List Stmt := pick2 (dAll P).2.1 rfl
noncomputable abbrev dBody1 (P : Params) : List Stmt := (dAll P).1
noncomputable abbrev dBody2 (P : Params) : List Stmt := (dAll P).2.1
noncomputable abbrev dEnv (P : Params) (L : Addr) : Env := envOf (dAll P).2.2.2.1 (dAll P).2.2.1 L 688 (dAll P).2.2.2.2
def Opaq (p : Prop) : Prop := p
theorem Opaq.out {p : Prop} (h : Opaq p) : p := h
end Mine
end
section
open PySem PySem.W PySem.Spec PySem.Calls PyProof.Rows
namespace Mine
set_option maxRecDepth 100000
set_option maxHeartbeats 8000000
def IsNum (x : Int) (v : Value) : Prop := ∃ t, v = .int x t
def MetV (g : Heap) (L : Addr) (m : Str → Option Value) (news : Led) (s : Shared) (R : Value → Prop) (v : Value) (s' : Shared) : Prop := R v ∧ Same g L m news s s'
theorem merge_val {prog : Program} {w : World} {A : Around} {E : Value → Shared → Prop} {g h : Heap} {L : Addr} {m : Str → Option Value} {news : Led} {s : Shared} {t : Sem Value} {Q : Value → Shared → Prop} (_ : Fr g L h m) (_ : News g L h news) {R : Value → Prop}
    (h1 : wpAny (model prog w) A t (MetV g L m news s R) E s) (h2 : ∀ v s', R v → Same g L m news s s' → Q v s') : wpAny (model prog w) A t Q E s :=
  wpAny_mono h1 (fun v s' hq => h2 v s' hq.1 hq.2) fun _ _ x => x
/-- a turn of the first loop -/
theorem turn1 (w : World) {na : Addr} {nvs : List Value} {ns : List Int} (hI : IntsAre nvs ns) (h1 : 1 ≤ ns.length) (hlen : ns.length ≤ 22)
    {dp un : Nat} {fr : List Env} {base g : Heap} {p : Program} {loose : List Str} {mean : ExcName → Option Value} {mg mb : Str → Option Value} {L' : Addr}
    (B' : Below (arr dp un (some []) fr) base fr g) (X' : (kk.heap_1 w.params).In g) (T' : Top p loose mean mg mb g) (hdp : dp + 60 < recursionLimit) (hun : un + 600 < cLine) (hNl : g.IsList na nvs.toArray)
    {a sh to el it wr : Addr} {D T : List Addr} {E : List Value} {c1 c2 c3 : Nat} {led : Led} (S : ShelfLed D T (eldersOf ns) led) (hE : IntsAre E (eldersOf ns))
    (hiw : it ≠ wr) (hof : ∀ p ∈ fxLed a sh to el D T E c1 c2 c3 led, p.1 ≠ it ∧ p.1 ≠ wr)
    {s : Shared} {Q : Flow → Shared → Prop} {Ex : Value → Shared → Prop} {i : Nat} {t : Tok} {m₁ : Str → Option Value} {news₁ : Led} {h : Heap} {tk : Nat} {I : Addr} {io : Obj} (hin : i < 3 + ns.length)
    (hJ : DJ ns na sh to el it wr (fxLed a sh to el D T E c1 c2 c3 led) i m₁ news₁) (hio : io.cls = .type "range_iterator")
    (F2 : Fr g L' h (fun y => if y = Str.ofString "k" then some (.int (0 + (i : Int)) t) else m₁ y)) (N2 : News g L' h ((I, io) :: news₁)) (hoff : ∀ p ∈ news₁, p.1 ≠ I) :
    wpAny (model PySem.Challenge.rw_in0200_01.row.prog w) ((arr dp un (some []) fr).deeper (dEnv w.params L')) (execs (dBody1 w.params) (dEnv w.params L'))
      (TEnd g L' [(I, io)] (.type "range_iterator") (DJ ns na sh to el it wr (fxLed a sh to el D T E c1 c2 c3 led) (i + 1)) { s with heap := h, toks := tk } Q) Ex { s with heap := h, toks := tk } := by
  have : Fill PySem.Challenge.rw_in0200_01 kk.heap_1 := by k_fill; trivial
  clear this
  obtain ⟨iv, ws, t0, ci, cw, u1, u2, u3, hiv, hws, hI1, hW1, rfl, rfl⟩ := hJ
  have hes := eldersOk ns
  have heL := eldersOf_length ns
  have hsD : (refs D).size = 3 + ns.length := by simp [refs, S.lenD, eldersOf_length]
  have hsE : 3 ≤ E.length := by rw [hE.length, eldersOf_length]; (first | lia | omega)
  dsimp only [dEnv, dBody1, dAll, pick1]
  simp only [Int.zero_add] at F2 ⊢
  (repeat' ((fail_if_success (with_reducible show wpAny _ _ (call (Value.ref 676) _) _ _ _)); first | (k_unfold; (try dsimp only)) | (k_end; kc_close) | walk1 | (dsimp only; walk1) | (leave1; (try dsimp only))))
  rename Fr _ _ _ _ => F3; rename News _ _ _ _ => N3
  refine' ctr_use0 (law_row w el E (eldersOf ns) hE (by (first | lia | omega)) hes i t (by (first | lia | omega)) (by (first | lia | omega))) B' F3 X' N3 T' rfl rfl ⟨_, N3.get (by k_mem), rfl, _, rfl⟩ ?c1 ?c2 ?_
  (case c1 => show dp + 1 + 3 < recursionLimit; (first | lia | omega))
  (case c2 => show un + 3 + 30 < cLine; (first | lia | omega))
  rintro v h4 tk4 F4 N4 st4 fr4 ⟨r, vs, c, rfl, hr0, hr1, hrI⟩
  have N5 := News.cons N4 hr1 (fr4 _ _ hr1 hr0).1 (fr4 _ _ hr1 hr0).2
  clear N4 N3 F3
  try clear N2
  try clear F2
  obtain ⟨pre, hpre'⟩ := row_root (eldersOf ns) i
  have hrt := root_three hin
  rw [Int.toNat_natCast, hpre'] at hrI
  (repeat' ((fail_if_success (with_reducible show wpAny _ _ (eval (PySem.Expr.IfExp _ _ _ _) _) _ _ _)); first | (k_unfold; (try dsimp only)) | (k_end; kc_close) | walk1 | (dsimp only; walk1) | (leave1; (try dsimp only))))
  rename Fr _ _ _ _ => Fa; rename News _ _ _ _ => Na
  refine merge_val Fa Na (R := IsNum (numOf ns i)) ?_ ?_
  · k_steps
    all_goals (
      rename Fr _ _ _ _ => Fb; rename News _ _ _ _ => Nb
      first
        | exact ⟨⟨_, congrArg (fun z => Value.int z _) (show List.getD ns (Int.toNat ((i : Int) - 3)) 0 = numOf ns i from (by unfold numOf; rw [if_pos (by (first | lia | omega))]; congr 1; (first | lia | omega)))⟩, _, _, rfl, Fb, Nb⟩
        | exact ⟨⟨_, congrArg (fun z => Value.int z _) (show (66059 : Int) = numOf ns i from (by unfold numOf; rw [if_neg (by (first | lia | omega))]))⟩, _, _, rfl, Fb, Nb⟩)
  rintro v s' ⟨tn, rfl⟩ ⟨hc, tkc, rfl, Fc, Nc⟩
  clear Fa Na
  dsimp only
  (repeat' ((fail_if_success (with_reducible show wpAny _ _ (call (Value.ref 681) _) _ _ _)); first | (k_unfold; (try dsimp only)) | (k_end; kc_close) | walk1 | (dsimp only; walk1) | (leave1; (try dsimp only))))
  rename Fr _ _ _ _ => F6; rename News _ _ _ _ => N6
  rw [last_getD]
  refine' ctr_use0 (law_item w _ _ _ _ hrt) B' F6 X' N6 T' rfl rfl trivial ?c1 ?c2 ?_
  (case c1 => show dp + 1 + 3 < recursionLimit; (first | lia | omega))
  (case c2 => show un + 3 + 30 < cLine; (first | lia | omega))
  rintro v h7 tk7 F7 N7 st7 fr7 ⟨ip, val, ob, tb, rfl, ha0, ha1, hval, rfl⟩
  have N8 := News.cons N7 ha1 (fr7 _ _ ha1 ha0).1 (fr7 _ _ ha1 ha0).2
  clear N7
  try clear F6
  try clear N6
  try clear N5
  try clear F4
  (repeat' ((fail_if_success (with_reducible show wpAny _ _ (call (Value.builtin "list.append") _) _ _ _)); first | (k_unfold; (try dsimp only)) | (k_end; kc_close) | walk1 | (dsimp only; walk1) | (leave1; (try dsimp only))))
  rename Fr _ _ _ _ => F9; rename News _ _ _ _ => N9
  have oI : ∀ q ∈ (wr, W.listOf (bVals ((#[97, 104, 101, 97, 100], t0) :: ws)).toArray cw) :: (it, W.listOf iv.toArray ci) :: fxLed a sh to el D T E c1 c2 c3 led, q.1 ≠ I := hoff
  have Na : News g L' _ ((it, W.listOf iv.toArray ci) :: (I, io) :: (wr, W.listOf (bVals ((#[97, 104, 101, 97, 100], t0) :: ws)).toArray cw) :: fxLed a sh to el D T E c1 c2 c3 led) := fun q hq => N9 q (by
    rcases List.mem_cons.mp hq with rfl | hq
    · exact .tail _ (.tail _ (.tail _ (.tail _ (.head _))))
    · rcases List.mem_cons.mp hq with rfl | hq
      · exact .tail _ (.tail _ (.head _))
      · rcases List.mem_cons.mp hq with rfl | hq
        · exact .tail _ (.tail _ (.tail _ (.head _)))
        · exact .tail _ (.tail _ (.tail _ (.tail _ (.tail _ hq)))))
  clear N9
  try clear N8
  refine append_own F9 Na (fun q hq => ?_) (by simp; (first | lia | omega)) fun h10 F10 N10 => ?_
  · rcases List.mem_cons.mp hq with rfl | hq
    · exact fun e => oI _ (.tail _ (.head _)) e.symm
    · rcases List.mem_cons.mp hq with rfl | hq
      · exact fun e => hiw e.symm
      · exact (hof q hq).1
  clear Na
  try clear F9
  (repeat' ((fail_if_success (with_reducible show wpAny _ _ (call (Value.builtin "list.append") _) _ _ _)); first | (k_unfold; (try dsimp only)) | (k_end; kc_close) | walk1 | (dsimp only; walk1) | (leave1; (try dsimp only))))
  rename Fr _ _ _ _ => F11; rename News _ _ _ _ => N11
  have Nb : News g L' _ ((wr, W.listOf (bVals ((#[97, 104, 101, 97, 100], t0) :: ws)).toArray cw) :: (I, io) :: (it, W.listOf (iv.toArray.push val) (ci + 1)) :: fxLed a sh to el D T E c1 c2 c3 led) := fun q hq => N11 q (by
    rcases List.mem_cons.mp hq with rfl | hq
    · exact .tail _ (.tail _ (.head _))
    · rcases List.mem_cons.mp hq with rfl | hq
      · exact .tail _ (.head _)
      · rcases List.mem_cons.mp hq with rfl | hq
        · exact .head _
        · exact .tail _ (.tail _ (.tail _ hq)))
  try clear N11
  refine append_own F11 Nb (fun q hq => ?_) (by simp [bVals]; (first | lia | omega)) fun h12 F12 N12 => ?_
  · rcases List.mem_cons.mp hq with rfl | hq
    · exact fun e => oI _ (.head _) e.symm
    · rcases List.mem_cons.mp hq with rfl | hq
      · exact hiw
      · exact (hof q hq).2
  clear Nb
  k_steps
  rename Fr _ _ _ _ => F13; rename News _ _ _ _ => N13
  refine TEnd.next _ F13 (fun q hq => N13 q ?_) ?_ (dj_more (t0 := t0) (tb := tb) (ci := ci) (cw := cw) hiv hws hI1 hW1 hval rfl)
  · simp only [List.cons_append, List.nil_append] at hq
    rcases List.mem_cons.mp hq with rfl | hq
    · exact .tail _ (.head _)
    · rcases List.mem_cons.mp hq with rfl | hq
      · exact .head _
      · rcases List.mem_cons.mp hq with rfl | hq
        · exact .tail _ (.tail _ (.head _))
        · exact .tail _ (.tail _ (.tail _ hq))
  · exact list_cls (fx_cls S)
end Mine
end
section
open PySem PySem.W PySem.Spec PySem.Calls PyProof.Rows
namespace Mine
set_option maxRecDepth 100000
set_option maxHeartbeats 8000000
theorem fmod4 (X : Int) : X.fmod 4 = 0 ∨ X.fmod 4 = 1 ∨ X.fmod 4 = 2 ∨ X.fmod 4 = 3 := by
  have z1 := Int.fmod_nonneg_of_pos X (show (0 : Int) < 4 by decide)
  have z2 := Int.fmod_lt_of_pos X (show (0 : Int) < 4 by decide)
  (first | lia | omega)
section
variable {prog : Program} {w : World} {A : Around} {E : Value → Shared → Prop} {s : Shared} {h₀ : Heap} {L a : Addr} {news : Led} {Q : Value → Shared → Prop} {value slice : PySem.Expr} {u : Tok} {P : Int}
theorem tup4_P {v0 v1 v2 v3 v : Value} (N : News h₀ L s.heap news) (hm : (a, tup4 v0 v1 v2 v3) ∈ news) (hP : (P = 0 ∧ v = v0) ∨ (P = 1 ∧ v = v1) ∨ (P = 2 ∧ v = v2) ∨ (P = 3 ∧ v = v3)) (h : Q v s)
    (hs : subscripted slice false (.ref a) (.int P u) = operate [.ref a, .int P u] (getItem (.ref a) (.int P u))) : wpAny (model prog w) A (subscriptTail value slice (.ref a) (.int P u)) Q E s := by
  rcases hP with ⟨rfl, rfl⟩ | ⟨rfl, rfl⟩ | ⟨rfl, rfl⟩ | ⟨rfl, rfl⟩
  · exact tup4_0 N hm h hs
  · exact tup4_1 N hm h hs
  · exact tup4_2 N hm h hs
  · exact tup4_at N hm (by decide) (by decide) rfl h hs
theorem tup4_S {p0 p1 p2 p3 pn : Str} {t0 t1 t2 t3 : Tok} (N : News h₀ L s.heap news) (hm : (a, tup4 (.str p0 t0) (.str p1 t1) (.str p2 t2) (.str p3 t3)) ∈ news)
    (hP : (P = 0 ∧ pn = p0) ∨ (P = 1 ∧ pn = p1) ∨ (P = 2 ∧ pn = p2) ∨ (P = 3 ∧ pn = p3)) (h : ∀ t, Q (.str pn t) s)
    (hs : subscripted slice false (.ref a) (.int P u) = operate [.ref a, .int P u] (getItem (.ref a) (.int P u))) : wpAny (model prog w) A (subscriptTail value slice (.ref a) (.int P u)) Q E s := by
  rcases hP with ⟨rfl, rfl⟩ | ⟨rfl, rfl⟩ | ⟨rfl, rfl⟩ | ⟨rfl, rfl⟩
  · exact tup4_0 N hm (h _) hs
  · exact tup4_1 N hm (h _) hs
  · exact tup4_2 N hm (h _) hs
  · exact tup4_at N hm (by decide) (by decide) rfl (h _) hs
end
abbrev mBase (i : Nat) (t : Tok) (r na to sh : Addr) (Mr : Str → Option Value) : Str → Option Value := fun y =>
  if y = Str.ofString "k" then some (.int i t) else if y = Str.ofString "row" then some (.ref r) else if y = Str.ofString "numbers" then some (.ref na) else if y = Str.ofString "told" then some (.ref to) else
  if y = Str.ofString "shelf" then some (.ref sh) else Mr y
/-- a turn of the inner loop -/
theorem turn3 (w : World) {na : Addr} {nvs : List Value} {ns : List Int} (hI : IntsAre nvs ns) (h1 : 1 ≤ ns.length) (hlen : ns.length ≤ 22)
    {dp un : Nat} {fr : List Env} {base g : Heap} {p : Program} {loose : List Str} {mean : ExcName → Option Value} {mg mb : Str → Option Value} {L' : Addr}
    (B' : Below (arr dp un (some []) fr) base fr g) (X' : (kk.heap_1 w.params).In g) (T' : Top p loose mean mg mb g) (hdp : dp + 60 < recursionLimit) (hun : un + 600 < cLine) (hNl : g.IsList na nvs.toArray)
    {sh to : Addr} {D T : List Addr} {c1 c2 : Nat} {led rest : Led} (S : ShelfLed D T (eldersOf ns) led) (sub : ∀ q ∈ led, q ∈ rest)
    {i : Nat} {t : Tok} {r : Addr} {vs : List Value} {row : List Int} {c : Nat} (hrI : IntsAre vs row) (hRow : RowOk (eldersOf ns) row) (hrow0 : row.getD 0 0 = i) (hrl : row.length ≤ 26) {Mr : Str → Option Value}
    {s : Shared} {Q : Flow → Shared → Prop} {Ex : Value → Shared → Prop} {j : Nat} {tj : Tok} {m₂ : Str → Option Value} {h : Heap} {tk : Nat} {J : Addr} {jo : Obj} (hin : i < 3 + ns.length) (hjn : j < row.length)
    (hA : Agree3 (mBase i t r na to sh Mr) m₂)
    (F20 : Fr g L' h (fun y => if y = Str.ofString "m" then some (.int (0 + (j : Int)) tj) else m₂ y))
    (N20 : News g L' h ((J, jo) :: (r, W.listOf vs.toArray c) :: (sh, W.listOf (refs D) c1) :: (to, W.listOf (refs T) c2) :: rest)) 
    (hoff2 : ∀ p ∈ (r, W.listOf vs.toArray c) :: (sh, W.listOf (refs D) c1) :: (to, W.listOf (refs T) c2) :: rest, p.1 ≠ J) :
    wpAny (model PySem.Challenge.rw_in0200_01.row.prog w) ((arr dp un (some []) fr).deeper (dEnv w.params L')) (execs (dBody3 w.params) (dEnv w.params L'))
      (TEnd2 g L' [(J, jo)] J (fun m news => Agree3 (mBase i t r na to sh Mr) m ∧ news = (r, W.listOf vs.toArray c) :: (sh, W.listOf (refs D) c1) :: (to, W.listOf (refs T) c2) :: rest) { s with heap := h, toks := tk } Q) Ex
      { s with heap := h, toks := tk } := by
  have : Fill PySem.Challenge.rw_in0200_01 kk.heap_1 := by k_fill; trivial
  clear this
  obtain ⟨u', rfl⟩ : ∃ u', m₂ = eMap3 (mBase i t r na to sh Mr) u' := ⟨m₂, agree_map3 hA⟩
  clear hA
  have heL := eldersOf_length ns
  have hDl : D.length = 3 + ns.length := by rw [S.lenD, heL]
  have hTl : T.length = 3 + ns.length := by rw [S.lenT, heL]
  have hsD : (refs D).size = 3 + ns.length := by simp [refs, hDl]
  have hvl : vs.toArray.size = row.length := by rw [List.size_toArray, hrI.length]
  simp only [Int.zero_add] at F20
  dsimp only [dEnv, dBody3, dAll, pick1, pick2]
  (repeat' ((fail_if_success (with_reducible show wpAny _ _ (storeName _ (Str.ofString "part") _) _ _ _)); first | (k_unfold; (try dsimp only)) | (k_end; kc_close) | walk1 | (dsimp only; walk1) | (leave1; (try dsimp only))))
  have hP := fmod4 ((i : Int) + (j : Int) + ns.getD (Int.toNat (-1 + (ns.length : Int))) 0)
  generalize ((i : Int) + (j : Int) + ns.getD (Int.toNat (-1 + (ns.length : Int))) 0).fmod 4 = P at hP ⊢
  dsimp only
  generalize hrj : row.getD j 0 = rj
  have hRj := hRow.at_ j hjn
  rw [hrj] at hRj
  obtain ⟨rj0, rj1, -, -⟩ := hRj
  obtain ⟨dd', nm', dc', z', y1', y2', y3', y4', y5', y6', m1', m2', m3'⟩ := S.at_ rj.toNat (by (first | lia | omega))
  obtain ⟨ra, hra⟩ : ∃ ra, rdOf D (eldersOf ns) rj.toNat = .ref ra := by unfold rdOf; split <;> exact ⟨_, rfl⟩
  rw [hra] at m1' m3'
  obtain ⟨pn, v, v', hPP⟩ : ∃ (pn : Str) (v v' : Value), (P = 0 ∧ pn = Str.ofString "name" ∧ v = .str nm' y1' ∧ v' = .str nm' y4') ∨ (P = 1 ∧ pn = Str.ofString "n" ∧ v = .int z' y2' ∧ v' = .int z' y5') ∨
      (P = 2 ∧ pn = Str.ofString "doc" ∧ v = .str dc' y3' ∧ v' = .str dc' y6') ∨ (P = 3 ∧ pn = Str.ofString "reader" ∧ v = .ref ra ∧ v' = .ref ra) := by
    rcases hP with rfl | rfl | rfl | rfl
    · exact ⟨_, _, _, .inl ⟨rfl, rfl, rfl, rfl⟩⟩
    · exact ⟨_, _, _, .inr (.inl ⟨rfl, rfl, rfl, rfl⟩)⟩
    · exact ⟨_, _, _, .inr (.inr (.inl ⟨rfl, rfl, rfl, rfl⟩))⟩
    · exact ⟨_, _, _, .inr (.inr (.inr ⟨rfl, rfl, rfl, rfl⟩))⟩
  have hpn : pn ∈ pcs7 := by
    rcases hPP with ⟨-, rfl, -⟩ | ⟨-, rfl, -⟩ | ⟨-, rfl, -⟩ | ⟨-, rfl, -⟩ <;> simp
  have hpv : PartOf pn (.str nm' y1') (.int z' y2') (.ref ra) (.str dc' y3') v := by
    rcases hPP with ⟨-, rfl, rfl, -⟩ | ⟨-, rfl, rfl, -⟩ | ⟨-, rfl, rfl, -⟩ | ⟨-, rfl, rfl, -⟩
    · exact .inl ⟨rfl, rfl⟩
    · exact .inr (.inl ⟨rfl, rfl⟩)
    · exact .inr (.inr (.inr ⟨rfl, rfl⟩))
    · exact .inr (.inr (.inl ⟨rfl, rfl⟩))
  have hhv : handedIn v = true := by
    rcases hPP with ⟨-, -, rfl, -⟩ | ⟨-, -, rfl, -⟩ | ⟨-, -, rfl, -⟩ | ⟨-, -, rfl, -⟩
    · rfl
    · rfl
    · rfl
    · rfl
  clear hP
  (repeat' ((fail_if_success (with_reducible show wpAny _ _ (binaryOp Operator.Mult _ _) _ _ _)); first | (k_unfold; (try dsimp only)) | (k_end; kc_close) | walk1 | (dsimp only; walk1) | (leave1; (try dsimp only))))
  rename Fr _ _ _ _ => F22; rename News _ _ _ _ => N22
  refine KMa.mul (vs := [.str rdr _]) F22 N22 ⟨_, N22.get (.head _), rfl, _, rfl⟩ (by (first | lia | omega)) (by (first | lia | omega)) (by simp; (first | lia | omega)) rfl fun D7 h23 F23 N23 l23 => ?_
  rw [Int.toNat_natCast, rep_vals] at N23
  dsimp only
  (repeat' ((fail_if_success (with_reducible show wpAny _ _ (subscriptTail _ _ (Value.ref _) (Value.int P _)) _ _ _)); first | (k_unfold; (try dsimp only)) | (k_end; kc_close) | walk1 | (dsimp only; walk1) | (leave1; (try dsimp only))))
  rename Fr _ _ _ _ => F24; rename News _ _ _ _ => N24
  refine tup4_S (pn := pn) N24 (.head _) ?_ (fun t24 => ?_) (by with_unfolding_all rfl)
  · rcases hPP with ⟨a1, a2, -⟩ | ⟨a1, a2, -⟩ | ⟨a1, a2, -⟩ | ⟨a1, a2, -⟩
    · exact .inl ⟨a1, a2⟩
    · exact .inr (.inl ⟨a1, a2⟩)
    · exact .inr (.inr (.inl ⟨a1, a2⟩))
    · exact .inr (.inr (.inr ⟨a1, a2⟩))
  dsimp only
  (repeat' ((fail_if_success (with_reducible show wpAny _ _ (binaryOp Operator.Add _ _) _ _ _)); first | (k_unfold; (try dsimp only)) | (k_end; kc_close) | walk1 | (dsimp only; walk1) | (leave1; (try dsimp only))))
  rename Fr _ _ _ _ => F25; rename News _ _ _ _ => N25
  refine kmk_add_lit F25 N25 ⟨_, N25.get (.tail _ (.tail _ (.head _))), rfl, _, rfl⟩ ⟨_, N25.get (.head _), rfl, _, rfl⟩ rfl (fun D8 h26 F26 N26 l26 => ?_) (by simp [strValues, sizeLine_eq]; (first | lia | omega))
  clear F25 N25
  dsimp only
  (repeat' ((fail_if_success (with_reducible show wpAny _ _ (call (Value.builtin "str.join") _) _ _ _)); first | (k_unfold; (try dsimp only)) | (k_end; kc_close) | walk1 | (dsimp only; walk1) | (leave1; (try dsimp only))))
  rename Fr _ _ _ _ => F27; rename News _ _ _ _ => N27
  refine join_part (n := j) hpn N27 (by (first | lia | omega)) fun t27 k27 => ?_
  dsimp only
  (repeat' ((fail_if_success (with_reducible show wpAny _ _ (subscriptTail _ _ _ _) _ _ _)); first | (k_unfold; (try dsimp only)) | (k_end; kc_close) | walk1 | (dsimp only; walk1) | (leave1; (try dsimp only))))
  rename News _ _ _ _ => Na
  refine item_ref Na (by k_mem) (Int.natCast_nonneg i) (by first | lia | omega) (by first | lia | omega) ?_ (by with_unfolding_all rfl)
  rw [Int.toNat_natCast]
  (repeat' ((fail_if_success (with_reducible show wpAny _ _ (call (Value.ref 35) _) _ _ _)); first | (k_unfold; (try dsimp only)) | (k_end; kc_close) | walk1 | (dsimp only; walk1) | (leave1; (try dsimp only))))
  rename Fr _ _ _ _ => F28; rename News _ _ _ _ => N28
  have C := ga_part w S hRow j hjn (by (first | lia | omega)) pn t27 (by rw [hrj]; exact m1') m2' hpv hhv
  rw [hrow0, hrj, Int.toNat_natCast] at C
  have hX := X'.keeps F28.keep
  have hG : ∀ q ∈ led, Heap.get? _ q.1 = some q.2 := fun q hq => (N28 q (by (repeat (first | exact (sub q hq) | apply List.mem_cons_of_mem)))).1
  refine' ctr_use0 (s := ⟨_, _, _, _, _⟩) C B' F28 X' N28 T' rfl rfl ⟨hX, hG⟩ ?c1 ?c2 ?_
  (case c1 => show dp + 1 + 10 < recursionLimit; (first | lia | omega))
  (case c2 => show un + 3 + 100 < cLine; (first | lia | omega))
  rintro v2 h29 tk29 F29 N29 st29 fr29 ⟨pr', rfl, hp0', hp1'⟩
  have N30 := News.cons N29 hp1' (fr29 _ _ hp1' hp0').1 (fr29 _ _ hp1' hp0').2
  clear N29 N28 F28 C hX hG st29 fr29
  have m3 := sub _ m3'
  (repeat' ((fail_if_success (with_reducible show wpAny _ _ (subscriptTail _ _ _ _) _ _ _)); first | (k_unfold; (try dsimp only)) | (k_end; kc_close) | walk1 | (dsimp only; walk1) | (leave1; (try dsimp only))))
  rename News _ _ _ _ => Na
  refine item_int Na (by k_mem) hrI hrj hjn (by first | lia | omega) (fun tq1 => ?_) (by with_unfolding_all rfl)
  (repeat' ((fail_if_success (with_reducible show wpAny _ _ (subscriptTail _ _ _ _) _ _ _)); first | (k_unfold; (try dsimp only)) | (k_end; kc_close) | walk1 | (dsimp only; walk1) | (leave1; (try dsimp only))))
  rename News _ _ _ _ => Na
  refine item_ref Na (by k_mem) rj0 (by first | lia | omega) (by first | lia | omega) ?_ (by with_unfolding_all rfl)
  (repeat' ((fail_if_success (with_reducible show wpAny _ _ (subscriptTail _ _ _ _) _ _ _)); first | (k_unfold; (try dsimp only)) | (k_end; kc_close) | walk1 | (dsimp only; walk1) | (leave1; (try dsimp only))))
  rename Fr _ _ _ _ => F31; rename News _ _ _ _ => N31
  refine tup4_P (v := v') N31 (by (repeat (first | assumption | apply List.mem_cons_of_mem))) ?_ ?_ (by with_unfolding_all rfl)
  · rcases hPP with ⟨a1, -, -, a2⟩ | ⟨a1, -, -, a2⟩ | ⟨a1, -, -, a2⟩ | ⟨a1, -, -, a2⟩
    · exact .inl ⟨a1, a2⟩
    · exact .inr (.inl ⟨a1, a2⟩)
    · exact .inr (.inr (.inl ⟨a1, a2⟩))
    · exact .inr (.inr (.inr ⟨a1, a2⟩))
  dsimp only
  (repeat' ((fail_if_success (with_reducible show wpAny _ _ (exec (Stmt.If _ _ _ _) _) _ _ _)); first | (k_unfold; (try dsimp only)) | (k_end; kc_close) | walk1 | (dsimp only; walk1) | (leave1; (try dsimp only))))
  clear hpn hpv hhv m1' m2' m3' m3 hRow hrow0
  rename Fr _ _ _ _ => F32; rename News _ _ _ _ => N32
  have N33 : News g L' _ ((J, jo) :: (r, W.listOf vs.toArray c) :: (sh, W.listOf (refs D) c1) :: (to, W.listOf (refs T) c2) :: rest) := fun q hq => N32 q (by (repeat (first | exact hq | apply List.mem_cons_of_mem)))
  clear N32
  (repeat' ((fail_if_success (with_reducible show wpAny _ _ (subscriptTail _ _ _ _) _ _ _)); first | (k_unfold; (try dsimp only)) | (k_end; kc_close) | walk1 | (dsimp only; walk1) | (leave1; (try dsimp only))))
  rename News _ _ _ _ => Na
  refine item_int Na (by k_mem) hrI hrj hjn (by first | lia | omega) (fun tq2 => ?_) (by with_unfolding_all rfl)
  (repeat' ((fail_if_success (with_reducible show wpAny _ _ (subscriptTail _ _ _ _) _ _ _)); first | (k_unfold; (try dsimp only)) | (k_end; kc_close) | walk1 | (dsimp only; walk1) | (leave1; (try dsimp only))))
  rename News _ _ _ _ => Na
  refine item_ref Na (by k_mem) rj0 (by first | lia | omega) (by first | lia | omega) ?_ (by with_unfolding_all rfl)
  rcases hPP with ⟨rfl, rfl, rfl, rfl⟩ | ⟨rfl, rfl, rfl, rfl⟩ | ⟨rfl, rfl, rfl, rfl⟩ | ⟨rfl, rfl, rfl, rfl⟩
  all_goals
    (repeat' ((fail_if_success (with_reducible show wpAny _ _ (compareOp CmpOp.NotEq _ _) _ _ _)); first | (k_unfold; (try dsimp only)) | (k_end; kc_close) | walk1 | (dsimp only; walk1) | (leave1; (try dsimp only))))
    first | (with_reducible show wpAny _ _ (compareOp CmpOp.NotEq (Value.str _ _) _) _ _ _; refine ne_str_same ?_) | (with_reducible show wpAny _ _ (compareOp CmpOp.NotEq (Value.int _ _) _) _ _ _; refine ne_int_same ?_) | skip
    k_steps
    rename Fr _ _ _ _ => F34; rename News _ _ _ _ => N34
    refine TEnd2.next (own := [(J, jo)]) _ F34 N34 hoff2 ?_
    refine ⟨fun y hy => ?_, rfl⟩
    simp only [List.mem_cons, List.not_mem_nil, or_false, not_or] at hy
    obtain ⟨y1, y2, y3, y4, y5, y6⟩ := hy
    simp only [if_neg y1, if_neg y2, if_neg y3, if_neg y4, if_neg y5, if_neg y6]
end Mine
end
section
open PySem PySem.W PySem.Spec PySem.Calls PyProof.Rows
namespace Mine
set_option maxRecDepth 100000
set_option maxHeartbeats 8000000
local macro_rules | `(tactic| walk_at "call type:type") => `(tactic| ((with_reducible show wpAny _ _ (call _ [Value.bytes _ _]) _ _ _); refine call_type_of (Tx := "bytes") (PySem.W.typeIs_bytes _ _ _) (by decide +kernel) ?_))
theorem peel {M B : Str → Option Value} {k : Str} {v : Option Value} (h : M k = v) (hB : ∀ y, M y = B y) : ∀ y, M y = if y = k then v else B y := fun y => by
  by_cases e : y = k
  · rw [if_pos e, e, h]
  · rw [if_neg e, hB]
abbrev oBase (x it sh to el na : Addr) (Mb : Str → Option Value) : Str → Option Value := fun y =>
  if y = Str.ofString "stream" then some (.ref x) else if y = Str.ofString "items" then some (.ref it) else if y = Str.ofString "shelf" then some (.ref sh) else if y = Str.ofString "told" then some (.ref to) else
  if y = Str.ofString "elder" then some (.ref el) else if y = Str.ofString "numbers" then some (.ref na) else Mb y
abbrev oLed (it sh to el : Addr) (iv : List Value) (D T : List Addr) (E : List Value) (ci c1 c2 c3 : Nat) (rest : Led) : Led :=
  (it, W.listOf iv.toArray ci) :: (sh, W.listOf (refs D) c1) :: (to, W.listOf (refs T) c2) :: (el, W.listOf E.toArray c3) :: rest
/-- a turn of the second loop -/
theorem turn2 (w : World) {na : Addr} {nvs : List Value} {ns : List Int} (hI : IntsAre nvs ns) (h1 : 1 ≤ ns.length) (hlen : ns.length ≤ 22)
    {dp un : Nat} {fr : List Env} {base g : Heap} {p : Program} {loose : List Str} {mean : ExcName → Option Value} {mg mb : Str → Option Value} {L' : Addr}
    (B' : Below (arr dp un (some []) fr) base fr g) (X' : (kk.heap_1 w.params).In g) (T' : Top p loose mean mg mb g) (hdp : dp + 60 < recursionLimit) (hun : un + 600 < cLine) (hNl : g.IsList na nvs.toArray)
    {it sh to el : Addr} {D T : List Addr} {iv E : List Value} {ci c1 c2 c3 : Nat} {led rest : Led} (S : ShelfLed D T (eldersOf ns) led) (hE : IntsAre E (eldersOf ns)) (sub : ∀ q ∈ led, q ∈ rest)
    (hcl : ∀ q ∈ rest, q.2.cls ≠ .type "range_iterator")
    (hiv : iv.length = 3 + ns.length) (hI1 : ∀ j < 3 + ns.length, ItemVal (rootOf (eldersOf ns) j) (numOf ns j) (iv.getD j .none))
    {x d q : Addr} {b : Array UInt8} {s1 s2 : Tok} (hb : b = ([97, 104, 101, 97, 100] ++ octsTo ns (3 + ns.length)).toArray) (hbl : b.size ≤ 1000) (xq : Opaq (x ≠ d ∧ q ≠ x ∧ q ≠ d))
    (offx : ∀ r ∈ oLed it sh to el iv D T E ci c1 c2 c3 rest, r.1 ≠ x ∧ r.1 ≠ d ∧ r.1 ≠ q) {Mb : Str → Option Value}
    {s : Shared} {Q : Flow → Shared → Prop} {i : Nat} {t : Tok} {m₁ : Str → Option Value} {news₁ : Led} {h : Heap} {tk : Nat} {I : Addr} {io : Obj} (hin : i < 3 + ns.length)
    (hJ : DK ns w x d q b s1 s2 (oBase x it sh to el na Mb) (oLed it sh to el iv D T E ci c1 c2 c3 rest) i m₁ news₁)
    (F2 : Fr g L' h (fun y => if y = Str.ofString "k" then some (.int (0 + (i : Int)) t) else m₁ y)) (N2 : News g L' h ((I, io) :: news₁)) (hoff : ∀ p ∈ news₁, p.1 ≠ I) :
    wpAny (model PySem.Challenge.rw_in0200_01.row.prog w) ((arr dp un (some []) fr).deeper (dEnv w.params L')) (execs (dBody2 w.params) (dEnv w.params L'))
      (TEnd g L' [(I, io)] (.type "range_iterator") (DK ns w x d q b s1 s2 (oBase x it sh to el na Mb) (oLed it sh to el iv D T E ci c1 c2 c3 rest) (i + 1)) { s with heap := h, toks := tk } Q) (fun _ _ => False)
      { s with heap := h, toks := tk } := by
  have : Fill PySem.Challenge.rw_in0200_01 kk.heap_1 := by k_fill; trivial
  clear this
  obtain ⟨⟨t3, rfl⟩, hA⟩ := hJ
  obtain ⟨u, rfl⟩ : ∃ u, m₁ = eMap (oBase x it sh to el na Mb) u := ⟨m₁, agree_map hA⟩
  clear hA
  have hes := eldersOk ns
  have heL := eldersOf_length ns
  have hDl : D.length = 3 + ns.length := by rw [S.lenD, heL]
  have hTl : T.length = 3 + ns.length := by rw [S.lenT, heL]
  have hsD : (refs D).size = 3 + ns.length := by simp [refs, hDl]
  have hsE : 3 ≤ E.length := by rw [hE.length, heL]; (first | lia | omega)
  have N3 : News g L' h ((I, io) :: (x, instObj 413 d) :: (d, bioDict w q (5 + (octsTo ns i).length : Nat) s1 s2 t3) :: (q, baObj b) :: oLed it sh to el iv D T E ci c1 c2 c3 rest) := N2
  clear N2
  simp only [Int.zero_add] at F2
  dsimp only [dEnv, dBody2, dAll, pick1]
  (repeat' ((fail_if_success (with_reducible show wpAny _ _ (call (Value.ref 676) _) _ _ _)); first | (k_unfold; (try dsimp only)) | (k_end; kc_close) | walk1 | (dsimp only; walk1) | (leave1; (try dsimp only))))
  rename Fr _ _ _ _ => F3; rename News _ _ _ _ => N3
  refine' ctr_use0 (law_row w el E (eldersOf ns) hE (by (first | lia | omega)) hes i t (by (first | lia | omega)) (by (first | lia | omega))) B' F3 X' N3 T' rfl rfl ⟨_, N3.get (by k_mem), rfl, _, rfl⟩ ?c1 ?c2 ?_
  (case c1 => show dp + 1 + 3 < recursionLimit; (first | lia | omega))
  (case c2 => show un + 3 + 30 < cLine; (first | lia | omega))
  rintro v h4 tk4 F4 N4 st4 fr4 ⟨r, vs, c, rfl, hr0, hr1, hrI⟩
  have N5 := News.cons N4 hr1 (fr4 _ _ hr1 hr0).1 (fr4 _ _ hr1 hr0).2
  have rx : Opaq (r ≠ x ∧ r ≠ d ∧ r ≠ q) := by
    refine ⟨fun e => ?_, fun e => ?_, fun e => ?_⟩
    · have := (N3 (x, _) (.tail _ (.head _))).1
      rw [← e] at this; exact absurd (hr0.symm.trans this) (by simp)
    · have := (N3 (d, _) (.tail _ (.tail _ (.head _)))).1
      rw [← e] at this; exact absurd (hr0.symm.trans this) (by simp)
    · have := (N3 (q, _) (.tail _ (.tail _ (.tail _ (.head _))))).1
      rw [← e] at this; exact absurd (hr0.symm.trans this) (by simp)
  have Ix : Opaq (I ≠ x ∧ I ≠ d ∧ I ≠ q) := ⟨fun e => hoff (x, _) (.head _) e.symm, fun e => hoff (d, _) (.tail _ (.head _)) e.symm, fun e => hoff (q, _) (.tail _ (.tail _ (.head _))) e.symm⟩
  clear N4 N3 F3
  rw [Int.toNat_natCast] at hrI
  have hRow := rowF_ok hes i i (by (first | lia | omega)) (by (first | lia | omega)) (by (first | lia | omega))
  have hRl := rowF_length (es := eldersOf ns) i (i : Int)
  obtain ⟨pre, hpre'⟩ := row_root (eldersOf ns) i
  have hrt := root_three hin
  have hhead : (rowF (eldersOf ns) i i).getD 0 0 = (i : Int) := by
    obtain ⟨t, e⟩ := rowF_head (eldersOf ns) i (i : Int)
    rw [e]; rfl
  have hvl : vs.toArray.size = pre.length + 1 := by rw [List.size_toArray, hrI.length, hpre']; simp
  have hrl : (rowF (eldersOf ns) i i).length = pre.length + 1 := by rw [hpre']; simp
  (repeat' ((fail_if_success (with_reducible show wpAny _ _ (subscriptTail _ _ _ _) _ _ _)); first | (k_unfold; (try dsimp only)) | (k_end; kc_close) | walk1 | (dsimp only; walk1) | (leave1; (try dsimp only))))
  rename News _ _ _ _ => Na
  refine item_ref Na (by k_mem) (Int.natCast_nonneg i) (by first | lia | omega) (by first | lia | omega) ?_ (by with_unfolding_all rfl)
  rw [Int.toNat_natCast]
  (repeat' ((fail_if_success (with_reducible show wpAny _ _ (binaryOp Operator.Mult _ _) _ _ _)); first | (k_unfold; (try dsimp only)) | (k_end; kc_close) | walk1 | (dsimp only; walk1) | (leave1; (try dsimp only))))
  rename Fr _ _ _ _ => F6; rename News _ _ _ _ => N6
  refine KMa.mul (vs := [.str rdr _]) F6 N6 ⟨_, N6.get (.head _), rfl, _, rfl⟩ (by (first | lia | omega)) (by (first | lia | omega)) (by simp; (first | lia | omega)) rfl fun D6 h6 F7 N7 l7 => ?_
  rw [Int.toNat_natCast, rep_vals] at N7
  clear F6 N6
  dsimp only
  (repeat' ((fail_if_success (with_reducible show wpAny _ _ (call (Value.builtin "str.join") _) _ _ _)); first | (k_unfold; (try dsimp only)) | (k_end; kc_close) | walk1 | (dsimp only; walk1) | (leave1; (try dsimp only))))
  rename Fr _ _ _ _ => F8; rename News _ _ _ _ => N8
  refine join_rep N8 (by (first | lia | omega)) fun t8 k8 => ?_
  dsimp only
  (repeat' ((fail_if_success (with_reducible show wpAny _ _ (call (Value.ref 35) _) _ _ _)); first | (k_unfold; (try dsimp only)) | (k_end; kc_close) | walk1 | (dsimp only; walk1) | (leave1; (try dsimp only))))
  rename Fr _ _ _ _ => F9; rename News _ _ _ _ => N9
  have hlast : (rowF (eldersOf ns) i i).getD pre.length 0 = rootOf (eldersOf ns) i := by rw [hpre']; simp
  obtain ⟨dd, nm, dc, z, y1, y2, y3, y4, y5, y6, m1, m2, m3⟩ := S.at_ (rootOf (eldersOf ns) i).toNat (by (first | lia | omega))
  have hrd := hRow.rd D pre.length (by (first | lia | omega))
  rw [if_neg (by (first | lia | omega)), hlast] at hrd
  rw [hrd] at m1 m3
  have C := ga_part w S hRow pre.length (by (first | lia | omega)) (by (first | lia | omega)) rdr t8 (by rw [hlast]; exact m1) m2 (.inr (.inr (.inl ⟨rfl, rfl⟩))) rfl
  rw [hhead, hlast, Int.toNat_natCast] at C
  have hX := X'.keeps F9.keep
  have hG : ∀ q ∈ led, Heap.get? _ q.1 = some q.2 := fun q hq => (N9 q (by (repeat (first | exact (sub q hq) | apply List.mem_cons_of_mem)))).1
  refine' ctr_use0 C B' F9 X' N9 T' rfl rfl ⟨hX, hG⟩ ?c1 ?c2 ?_
  (case c1 => show dp + 1 + 10 < recursionLimit; (first | lia | omega))
  (case c2 => show un + 3 + 100 < cLine; (first | lia | omega))
  rintro v h10 tk10 F10 N10 st10 fr10 ⟨pr, rfl, hp0, hp1⟩
  have N11 : News g L' h10 ((pr, ({ cls := .type "tuple", data := .seq #[.ref (rootFn (rootOf (eldersOf ns) i).toNat), .ref (D.getD (rootOf (eldersOf ns) i).toNat 0)] } : Obj)) :: (r, W.listOf vs.toArray c) :: (I, io) :: (x, instObj 413 d) :: (d, bioDict w q (5 + (octsTo ns i).length : Nat) s1 s2 t3) :: (q, baObj b) :: oLed it sh to el iv D T E ci c1 c2 c3 rest) :=
    News.cons (fun q hq => N10 q (by (repeat (first | exact hq | apply List.mem_cons_of_mem)))) hp1 (fr10 _ _ hp1 hp0).1 (fr10 _ _ hp1 hp0).2
  clear N10 N9 F9 C hX hG st10 fr10 st4 fr4
  rw [hpre'] at hrI hRow
  have m3s := sub _ m3
  (repeat' ((fail_if_success (with_reducible show wpAny _ _ (compareOp CmpOp.NotEq _ _) _ _ _)); first | (k_unfold; (try dsimp only)) | (k_end; kc_close) | walk1 | (dsimp only; walk1) | (leave1; (try dsimp only))))
  (with_unfolding_all refine ne_type_same ?kt ?_); (case kt => pv_meta)
  (repeat' ((fail_if_success (with_reducible show wpAny _ _ (subscriptTail _ _ _ _) _ _ _)); first | (k_unfold; (try dsimp only)) | (k_end; kc_close) | walk1 | (dsimp only; walk1) | (leave1; (try dsimp only))))
  rename News _ _ _ _ => Na
  refine item_last Na (by k_mem) hrI (by first | lia | omega) (fun tl1 => ?_) (by with_unfolding_all rfl)
  (repeat' ((fail_if_success (with_reducible show wpAny _ _ (subscriptTail _ _ _ _) _ _ _)); first | (k_unfold; (try dsimp only)) | (k_end; kc_close) | walk1 | (dsimp only; walk1) | (leave1; (try dsimp only))))
  rename News _ _ _ _ => Na
  refine item_ref Na (by k_mem) (by first | lia | omega) (by first | lia | omega) (by first | lia | omega) ?_ (by with_unfolding_all rfl)
  (repeat' ((fail_if_success (with_reducible show wpAny _ _ (subscriptTail _ _ _ _) _ _ _)); first | (k_unfold; (try dsimp only)) | (k_end; kc_close) | walk1 | (dsimp only; walk1) | (leave1; (try dsimp only))))
  rename News _ _ _ _ => Na
  refine tup4_3 Na (by (repeat (first | assumption | apply List.mem_cons_of_mem))) ?_ (by with_unfolding_all rfl)
  (repeat' ((fail_if_success (with_reducible show wpAny _ _ (subscriptTail _ _ _ _) _ _ _)); first | (k_unfold; (try dsimp only)) | (k_end; kc_close) | walk1 | (dsimp only; walk1) | (leave1; (try dsimp only))))
  rename News _ _ _ _ => Na
  refine item_last Na (by k_mem) hrI (by first | lia | omega) (fun tl2 => ?_) (by with_unfolding_all rfl)
  (repeat' ((fail_if_success (with_reducible show wpAny _ _ (subscriptTail _ _ _ _) _ _ _)); first | (k_unfold; (try dsimp only)) | (k_end; kc_close) | walk1 | (dsimp only; walk1) | (leave1; (try dsimp only))))
  rename News _ _ _ _ => Na
  refine item_ref Na (by k_mem) (by first | lia | omega) (by first | lia | omega) (by first | lia | omega) ?_ (by with_unfolding_all rfl)
  (repeat' ((fail_if_success (with_reducible show wpAny _ _ (callWith _ (Value.ref (rootFn _)) _ _ _) _ _ _)); first | (k_unfold; (try dsimp only)) | (k_end; kc_close) | walk1 | (dsimp only; walk1) | (leave1; (try dsimp only))))
  have hkeep : keepIn (kk.heap_1 w.params) (.ref (rootFn (rootOf (eldersOf ns) i).toNat)) = true := by
    rcases hrt with h | h | h
    · rw [h]; show keepIn _ (.ref 67) = true; k_is
    · rw [h]; show keepIn _ (.ref 81) = true; k_is
    · rw [h]; show keepIn _ (.ref 74) = true; k_is
  refine callWith_K X' hkeep ?_
  (repeat' ((fail_if_success (with_reducible show wpAny _ _ (call (Value.ref (rootFn _)) _) _ _ _)); first | (k_unfold; (try dsimp only)) | (k_end; kc_close) | walk1 | (dsimp only; walk1) | (leave1; (try dsimp only))))
  rename Fr _ _ _ _ => F12; rename News _ _ _ _ => N12
  have Nr : News g L' _ (strLed w x d q b (5 + (octsTo ns i).length) s1 s2 t3 ++ ((r, W.listOf vs.toArray c) :: (I, io) :: oLed it sh to el iv D T E ci c1 c2 c3 rest)) := fun p hp => N12 p (by
    have hp : p ∈ (x, instObj 413 d) :: (d, bioDict w q (5 + (octsTo ns i).length : Nat) s1 s2 t3) :: (q, baObj b) :: (r, W.listOf vs.toArray c) :: (I, io) :: oLed it sh to el iv D T E ci c1 c2 c3 rest := hp
    rcases List.mem_cons.mp hp with rfl | hp
    · exact .tail _ (.tail _ (.tail _ (.head _)))
    rcases List.mem_cons.mp hp with rfl | hp
    · exact .tail _ (.tail _ (.tail _ (.tail _ (.head _))))
    rcases List.mem_cons.mp hp with rfl | hp
    · exact .tail _ (.tail _ (.tail _ (.tail _ (.tail _ (.head _)))))
    rcases List.mem_cons.mp hp with rfl | hp
    · exact .tail _ (.head _)
    rcases List.mem_cons.mp hp with rfl | hp
    · exact .tail _ (.tail _ (.head _))
    exact .tail _ (.tail _ (.tail _ (.tail _ (.tail _ (.tail _ (hp)))))))
  clear N12
  refine' root_use (by (first | lia | omega)) (oct_at hb hin) hrt xq.out.1 xq.out.2.1 xq.out.2.2 B' F12 X' Nr T' rfl rfl ?off ?c1 ?c2 ?_
  (case off =>
    intro p hp
    rcases List.mem_cons.mp hp with rfl | hp
    · exact rx.out
    rcases List.mem_cons.mp hp with rfl | hp
    · exact Ix.out
    exact offx p hp)
  (case c1 => show dp + 1 + 20 < recursionLimit; (first | lia | omega))
  (case c2 => show un + 3 + 200 < cLine; (first | lia | omega))
  rintro v h13 tk13 t3' F13 N13 hval
  have epos : 5 + (octsTo ns i).length + (octOf ns i).length = 5 + (octsTo ns (i + 1)).length := by rw [octsTo_succ, List.length_append]; (first | lia | omega)
  rw [epos] at N13
  have N14 : News g L' h13 ((it, W.listOf iv.toArray ci) :: (I, io) :: (r, W.listOf vs.toArray c) :: (sh, W.listOf (refs D) c1) :: (to, W.listOf (refs T) c2) :: (x, instObj 413 d) :: (d, bioDict w q (5 + (octsTo ns (i + 1)).length : Nat) s1 s2 t3') :: (q, baObj b) :: (el, W.listOf E.toArray c3) :: rest) := fun p hp => N13 p (by
    have hp : p ∈ (it, W.listOf iv.toArray ci) :: (I, io) :: (r, W.listOf vs.toArray c) :: (sh, W.listOf (refs D) c1) :: (to, W.listOf (refs T) c2) :: (x, instObj 413 d) :: (d, bioDict w q (5 + (octsTo ns (i + 1)).length : Nat) s1 s2 t3') :: (q, baObj b) :: (el, W.listOf E.toArray c3) :: rest := hp
    show p ∈ (x, instObj 413 d) :: (d, bioDict w q (5 + (octsTo ns (i + 1)).length : Nat) s1 s2 t3') :: (q, baObj b) :: (r, W.listOf vs.toArray c) :: (I, io) :: (it, W.listOf iv.toArray ci) :: (sh, W.listOf (refs D) c1) :: (to, W.listOf (refs T) c2) :: (el, W.listOf E.toArray c3) :: rest
    rcases List.mem_cons.mp hp with rfl | hp
    · exact .tail _ (.tail _ (.tail _ (.tail _ (.tail _ (.head _)))))
    rcases List.mem_cons.mp hp with rfl | hp
    · exact .tail _ (.tail _ (.tail _ (.tail _ (.head _))))
    rcases List.mem_cons.mp hp with rfl | hp
    · exact .tail _ (.tail _ (.tail _ (.head _)))
    rcases List.mem_cons.mp hp with rfl | hp
    · exact .tail _ (.tail _ (.tail _ (.tail _ (.tail _ (.tail _ (.head _))))))
    rcases List.mem_cons.mp hp with rfl | hp
    · exact .tail _ (.tail _ (.tail _ (.tail _ (.tail _ (.tail _ (.tail _ (.head _)))))))
    rcases List.mem_cons.mp hp with rfl | hp
    · exact .head _
    rcases List.mem_cons.mp hp with rfl | hp
    · exact .tail _ (.head _)
    rcases List.mem_cons.mp hp with rfl | hp
    · exact .tail _ (.tail _ (.head _))
    rcases List.mem_cons.mp hp with rfl | hp
    · exact .tail _ (.tail _ (.tail _ (.tail _ (.tail _ (.tail _ (.tail _ (.tail _ (.head _))))))))
    exact .tail _ (.tail _ (.tail _ (.tail _ (.tail _ (.tail _ (.tail _ (.tail _ (.tail _ (hp))))))))))
  clear N13 Nr F12
  (repeat' ((fail_if_success (with_reducible show wpAny _ _ (exec (Stmt.If _ _ _ _) _) _ _ _)); first | (k_unfold; (try dsimp only)) | (k_end; kc_close) | walk1 | (dsimp only; walk1) | (leave1; (try dsimp only))))
  rename Fr _ _ _ _ => F15; rename News _ _ _ _ => N15
  have hit := hI1 i hin
  refine wpAny_If ?_
  refine merge_test F15 N15 ?_ (fun s' hs => ?_)
  · rcases hval with ⟨q1, ta, rfl⟩ | ⟨q1, ta, rfl⟩ | ⟨q1, ta, rfl⟩
    all_goals (
      rcases hit with ⟨q2, tb, he⟩ | ⟨q2, tb, he⟩ | ⟨q2, tb, he⟩ <;> first | exact absurd (q1.symm.trans q2) (by decide) | skip
      (repeat' ((fail_if_success (with_reducible show wpAny _ _ (subscriptTail _ _ _ _) _ _ _)); first | (k_unfold; (try dsimp only)) | (k_end; kc_close) | walk1 | (dsimp only; walk1) | (leave1; (try dsimp only))))
      rename News _ _ _ _ => Na
      refine item_iv Na (by k_mem) (by first | lia | omega) (by first | lia | omega) he ?_ (by with_unfolding_all rfl)
      (repeat' ((fail_if_success (with_reducible show wpAny _ _ (compareOp CmpOp.NotEq _ _) _ _ _)); first | (k_unfold; (try dsimp only)) | (k_end; kc_close) | walk1 | (dsimp only; walk1) | (leave1; (try dsimp only))))
      first | ((with_reducible show wpAny _ _ (compareOp CmpOp.NotEq (Value.int _ _) _) _ _ _); refine ne_int_same ?_) | ((with_reducible show wpAny _ _ (compareOp CmpOp.NotEq (Value.bytes _ _) _) _ _ _); refine ne_bytes_same ?_) | ((with_reducible show wpAny _ _ (compareOp CmpOp.NotEq (Value.str _ _) _) _ _ _); refine ne_str_same ?_)
      (repeat' ((fail_if_success (with_reducible show wpAny _ _ (subscriptTail _ _ _ _) _ _ _)); first | (k_unfold; (try dsimp only)) | (k_end; kc_close) | walk1 | (dsimp only; walk1) | (leave1; (try dsimp only))))
      rename News _ _ _ _ => Na
      refine item_iv Na (by k_mem) (by first | lia | omega) (by first | lia | omega) he ?_ (by with_unfolding_all rfl)
      (repeat' ((fail_if_success (with_reducible show wpAny _ _ (compareOp CmpOp.NotEq _ _) _ _ _)); first | (k_unfold; (try dsimp only)) | (k_end; kc_close) | walk1 | (dsimp only; walk1) | (leave1; (try dsimp only))))
      (with_unfolding_all refine ne_type_same ?kt ?_); (case kt => pv_meta)
      k_steps
      rename Fr _ _ _ _ => F17; rename News _ _ _ _ => N17
      first | exact ⟨rfl, _, _, rfl, F17, N17⟩ | exact ⟨_, _, rfl, F17, N17⟩)
  · obtain ⟨h16, tk16, rfl, F16, N16⟩ := hs
    clear F15 N15 hval hit
    dsimp only
    rw [if_neg (by decide)]
    (repeat' ((fail_if_success (with_reducible show wpAny _ _ (exec (Stmt.For _ _ _ _ _) _) _ _ _)); first | (k_unfold; (try dsimp only)) | (k_end; kc_close) | walk1 | (dsimp only; walk1) | (leave1; (try dsimp only))))
    rename Fr _ _ _ _ => F1; rename News _ _ _ _ => N1
    refine For_invV g (by rfl) (by rfl) ?_
    (repeat' ((fail_if_success (with_reducible show wpAny _ _ (pyIter _) _ _ _)); first | (k_unfold; (try dsimp only)) | (k_end; kc_close) | walk1 | (dsimp only; walk1) | (leave1; (try dsimp only))))
    rename Fr _ _ _ _ => F18; rename News _ _ _ _ => N18
    rename IsRange _ _ _ _ _ _ _ _ => hR2
    obtain ⟨M0, hM0⟩ : ∃ M0 : Str → Option Value, M0 = (fun y => if y = Str.ofString "value" then some v else if y = Str.ofString "parent" then some (.ref (D.getD (rootOf (eldersOf ns) i).toNat 0)) else if y = Str.ofString "found" then some (.ref (rootFn (rootOf (eldersOf ns) i).toNat)) else
      if y = Str.ofString "pair" then some (.ref pr) else if y = Str.ofString "row" then some (.ref r) else if y = Str.ofString "k" then some (.int i t) else eMap (oBase x it sh to el na Mb) u y) := ⟨_, rfl⟩
    have hB : ∀ y, M0 y = mBase i t r na to sh M0 y := peel (by rw [hM0]; rfl) (peel (by rw [hM0]; rfl) (peel (by rw [hM0]; rfl) (peel (by rw [hM0]; rfl) (peel (by rw [hM0]; rfl) fun _ => rfl))))
    have Np : ∀ p ∈ (r, W.listOf vs.toArray c) :: (sh, W.listOf (refs D) c1) :: (to, W.listOf (refs T) c2) :: (it, W.listOf iv.toArray ci) :: (I, io) :: (x, instObj 413 d) :: (d, bioDict w q (5 + (octsTo ns (i + 1)).length : Nat) s1 s2 t3') :: (q, baObj b) :: (el, W.listOf E.toArray c3) :: rest,
        p ∈ (it, W.listOf iv.toArray ci) :: (I, io) :: (r, W.listOf vs.toArray c) :: (sh, W.listOf (refs D) c1) :: (to, W.listOf (refs T) c2) :: (x, instObj 413 d) :: (d, bioDict w q (5 + (octsTo ns (i + 1)).length : Nat) s1 s2 t3') :: (q, baObj b) :: (el, W.listOf E.toArray c3) :: rest := fun p hp => by
      rcases List.mem_cons.mp hp with rfl | hp
      · exact .tail _ (.tail _ (.head _))
      rcases List.mem_cons.mp hp with rfl | hp
      · exact .tail _ (.tail _ (.tail _ (.head _)))
      rcases List.mem_cons.mp hp with rfl | hp
      · exact .tail _ (.tail _ (.tail _ (.tail _ (.head _))))
      rcases List.mem_cons.mp hp with rfl | hp
      · exact .head _
      rcases List.mem_cons.mp hp with rfl | hp
      · exact .tail _ (.head _)
      rcases List.mem_cons.mp hp with rfl | hp
      · exact .tail _ (.tail _ (.tail _ (.tail _ (.tail _ (.head _)))))
      rcases List.mem_cons.mp hp with rfl | hp
      · exact .tail _ (.tail _ (.tail _ (.tail _ (.tail _ (.tail _ (.head _))))))
      rcases List.mem_cons.mp hp with rfl | hp
      · exact .tail _ (.tail _ (.tail _ (.tail _ (.tail _ (.tail _ (.tail _ (.head _)))))))
      rcases List.mem_cons.mp hp with rfl | hp
      · exact .tail _ (.tail _ (.tail _ (.tail _ (.tail _ (.tail _ (.tail _ (.tail _ (.head _))))))))
      exact .tail _ (.tail _ (.tail _ (.tail _ (.tail _ (.tail _ (.tail _ (.tail _ (.tail _ (hp)))))))))
    refine iter_range2 (n := pre.length + 1) (fun _ m news => Agree3 (mBase i t r na to sh M0) m ∧ news = (r, W.listOf vs.toArray c) :: (sh, W.listOf (refs D) c1) :: (to, W.listOf (refs T) c2) :: (it, W.listOf iv.toArray ci) :: (I, io) :: (x, instObj 413 d) :: (d, bioDict w q (5 + (octsTo ns (i + 1)).length : Nat) s1 s2 t3') :: (q, baObj b) :: (el, W.listOf E.toArray c3) :: rest) rfl hR2 (range_small _ (by (first | lia | omega))) (range_size _) F18 (fun p hp => N18 p (Np p hp)) ?_ ?_ ?_
    · exact ⟨fun y _ => by rw [← hB y, hM0], rfl⟩
    · rintro j tj m₂ news₂ h20 tk20 J jo hjn ⟨hA2, rfl⟩ hjo F20 N20 hoff2
      exact turn3 w hI h1 hlen B' X' T' hdp hun hNl S (fun p hp => .tail _ (.tail _ (.tail _ (.tail _ (.tail _ (.tail _ (sub p hp))))))) hrI hRow (by rw [← hpre']; exact hhead) (by rw [← hpre', hrl]; (first | lia | omega)) hin (by simp; (first | lia | omega)) hA2 F20 N20 hoff2
    · rintro m₂ news₂ h20 tk20 ⟨hA2, rfl⟩ F20 N20
      dsimp only
      k_steps
      refine TEnd.next (own := [(I, io)]) (strLed w x d q b (5 + (octsTo ns (i + 1)).length) s1 s2 t3' ++ oLed it sh to el iv D T E ci c1 c2 c3 rest) F20 (fun p hp => N20 p ?_) (fun p hp => ?_) ⟨⟨t3', rfl⟩, fun y hy => ?_⟩
      · have hp : p ∈ (I, io) :: (x, instObj 413 d) :: (d, bioDict w q (5 + (octsTo ns (i + 1)).length : Nat) s1 s2 t3') :: (q, baObj b) :: oLed it sh to el iv D T E ci c1 c2 c3 rest := hp
        rcases List.mem_cons.mp hp with rfl | hp
        · exact .tail _ (.tail _ (.tail _ (.tail _ (.head _))))
        rcases List.mem_cons.mp hp with rfl | hp
        · exact .tail _ (.tail _ (.tail _ (.tail _ (.tail _ (.head _)))))
        rcases List.mem_cons.mp hp with rfl | hp
        · exact .tail _ (.tail _ (.tail _ (.tail _ (.tail _ (.tail _ (.head _))))))
        rcases List.mem_cons.mp hp with rfl | hp
        · exact .tail _ (.tail _ (.tail _ (.tail _ (.tail _ (.tail _ (.tail _ (.head _)))))))
        rcases List.mem_cons.mp hp with rfl | hp
        · exact .tail _ (.tail _ (.tail _ (.head _)))
        rcases List.mem_cons.mp hp with rfl | hp
        · exact .tail _ (.head _)
        rcases List.mem_cons.mp hp with rfl | hp
        · exact .tail _ (.tail _ (.head _))
        rcases List.mem_cons.mp hp with rfl | hp
        · exact .tail _ (.tail _ (.tail _ (.tail _ (.tail _ (.tail _ (.tail _ (.tail _ (.head _))))))))
        exact .tail _ (.tail _ (.tail _ (.tail _ (.tail _ (.tail _ (.tail _ (.tail _ (.tail _ (hp)))))))))
      · have hp : p ∈ (x, instObj 413 d) :: (d, bioDict w q (5 + (octsTo ns (i + 1)).length : Nat) s1 s2 t3') :: (q, baObj b) :: oLed it sh to el iv D T E ci c1 c2 c3 rest := hp
        iterate 7
          rcases List.mem_cons.mp hp with rfl | hp
          · k_cls
        exact hcl p hp
      · simp only [List.mem_cons, List.not_mem_nil, or_false, not_or] at hy
        obtain ⟨y1, y2, y3, y4, y5, y6, y7, y8, y9, y10⟩ := hy
        rw [hA2 y (by simp only [List.mem_cons, List.not_mem_nil, or_false, not_or]; exact ⟨y7, y8, y9, y4, y5, y10⟩), ← hB y, hM0]
        simp only [if_neg y1, if_neg y2, if_neg y3, if_neg y4, if_neg y5, if_neg y6, if_neg y7, if_neg y8, if_neg y9, if_neg y10]
end Mine
end
section
open PySem PySem.W PySem.Spec PySem.Calls PyProof.Rows
namespace Mine
set_option maxRecDepth 100000
set_option maxHeartbeats 8000000
local macro_rules | `(tactic| walk_at "getMethod bytes") => `(tactic| (k_here; (with_unfolding_all refine join_method ?_)))
theorem law_desc (w : World) (na : Addr) (nvs : List Value) (ns : List Int) (hI : IntsAre nvs ns) (h1 : 1 ≤ ns.length) (hlen : ns.length ≤ 22) :
    CtrN w (kk.heap_1 w.params) (.ref 688) [.ref na] [] (fun h => h.IsList na nvs.toArray) (fun _ v _ => v = .bool true) 60 600 := by
  have : Fill PySem.Challenge.rw_in0200_01 kk.heap_1 := by k_fill; trivial
  clear this
  refine ctr_enterN [(Str.ofString "numbers", .ref na)] (by k_is) (by k_is) (fun s X => BindsTo.of_eq rfl) (locs rfl) ?_
  intro dp un fr base g p loose mean mg mb s L' h₁ tk st B' X' T' hH hpre hdp hun hg F' N' hlt
  have hNl : g.IsList na nvs.toArray := hpre.at fun o e => st na o (fun h => nomatch h) e
  refine wpN_execs_cons (wpN_of ?_)
  (repeat' ((fail_if_success (with_reducible show wpAny _ _ (call (Value.ref 669) _) _ _ _)); first | (k_unfold; (try dsimp only)) | (k_end; kc_close) | walk1 | (dsimp only; walk1) | (leave1; (try dsimp only))))
  refine' ctr_use0 (law_shelf w na nvs ns hI (by (first | lia | omega))) B' F' X' N' T' rfl rfl (hNl.at fun o e => F'.keep _ _ e) ?c1 ?c2 ?_
  (case c1 => show dp + 1 + 10 < recursionLimit; (first | lia | omega))
  (case c2 => show un + 3 + 100 < cLine; (first | lia | omega))
  rintro v h2 tk2 F2 N2 st2 fr2 ⟨a, sh, to, el, D, T, E, led, c1, c2, c3, rfl, S, hE, -, -, -, hall⟩
  have N3 : News g L' h2 ((a, ({ cls := .type "tuple", data := .seq #[.ref sh, .ref to, .ref el] } : Obj)) :: (sh, W.listOf (refs D) c1) :: (to, W.listOf (refs T) c2) :: (el, W.listOf E.toArray c3) :: led) :=
    fun q hq => ⟨(hall q hq).1, fr2 _ _ (hall q hq).1 (hall q hq).2⟩
  clear N2 hall F' N'
  (repeat' ((fail_if_success (with_reducible show wpN _ _ _ _ _ _)); first | (k_unfold; (try dsimp only)) | (k_end; kc_close) | walk1 | (dsimp only; walk1) | (leave1; (try dsimp only))))
  have hsD : (refs D).size = 3 + ns.length := by simp [refs, S.lenD, eldersOf_length]
  refine wpN_execs_cons (wpN_of ?_)
  (repeat' ((fail_if_success (with_reducible show wpN _ _ _ _ _ _)); first | (k_unfold; (try dsimp only)) | (k_end; kc_close) | walk1 | (dsimp only; walk1) | (leave1; (try dsimp only))))
  refine wpN_execs_cons (wpN_of ?_)
  (repeat' ((fail_if_success (with_reducible show wpN _ _ _ _ _ _)); first | (k_unfold; (try dsimp only)) | (k_end; kc_close) | walk1 | (dsimp only; walk1) | (leave1; (try dsimp only))))
  refine wpN_execs_cons (wpN_of ?_)
  rename Fr _ _ _ _ => F1; rename News _ _ _ _ => N1
  dsimp only
  refine For_invV g (by rfl) (by rfl) ?_
  (repeat' ((fail_if_success (with_reducible show wpAny _ _ (pyIter _) _ _ _)); first | (k_unfold; (try dsimp only)) | (k_end; kc_close) | walk1 | (dsimp only; walk1) | (leave1; (try dsimp only))))
  rename Fr _ _ _ _ => F5; rename News _ _ _ _ => N5
  rename IsRange _ _ _ _ _ _ _ _ => hR
  have hes := eldersOk ns
  have heL := eldersOf_length ns
  obtain ⟨wr, it, t0, F6, N6⟩ := d_start F5 N5
  have hsT : 3 ≤ (refs T).size := by simp [refs, S.lenT, eldersOf_length]
  have hsE : 3 ≤ E.length := by rw [hE.length, eldersOf_length]; (first | lia | omega)
  obtain ⟨hiw', hof⟩ := d_off (by (first | lia | omega)) hsT hsE (fun p hp => (S.cls p hp).1) N6
  have hiw : Opaq (it ≠ wr) := hiw'
  clear hiw'
  refine iter_range (n := 3 + ns.length) (DJ ns na sh to el it wr (fxLed a sh to el D T E c1 c2 c3 led)) rfl hR ?_ ?_ F6 N6 ?_ ?_ ?_
  · exact range_small _ (by (first | lia | omega))
  · exact range_size _
  · exact ⟨[], [], t0, _, _, none, none, none, rfl, rfl, fun j hj => absurd hj (Nat.not_lt_zero _), fun j hj => absurd hj (Nat.not_lt_zero _), rfl, rfl⟩
  · rintro i t m₁ news₁ h tk I io hin hJ hio F2 N2 hoff
    exact turn1 w hI h1 hlen B' X' T' hdp hun hNl S hE hiw.out hof hin hJ hio F2 N2 hoff
  · rintro m₁ news₁ h tk ⟨iv, ws, t0', ci, cw, u1, u2, u3, hiv, hws, hI1, hW1, rfl, rfl⟩ F2 N2
    dsimp only
    refine wpN_execs_cons ?_
    refine wpN_Assign_Name rfl ?_
    refine wpN_Call1 (P := fun h => (kk.heap_1 w.params).In h) (.ref 413) rfl (keeps_K (by k_is)) ?_
    (repeat' ((fail_if_success (with_reducible show wpAny _ _ (call (Value.builtin "bytes.join") _) _ _ _)); first | (k_unfold; (try dsimp only)) | (k_end; kc_close) | walk1 | (dsimp only; walk1) | (leave1; (try dsimp only))))
    rename Fr _ _ _ _ => F3; rename News _ _ _ _ => N3
    have hoct := oct_list (ns := ns) hws hW1
    have hocl := oct_len ns (3 + ns.length)
    refine bytes_join (l := (#[97, 104, 101, 97, 100], t0') :: ws) ⟨_, N3.get (.head _), rfl, _, rfl⟩ (by rw [List.length_cons]; (first | lia | omega)) ?_ fun t3 k3 => ?_
    · rw [List.map_cons, List.flatten_cons, hoct, List.length_append]
      exact Nat.le_trans (Nat.add_le_add_left hocl 5) (by (first | lia | omega))
    rw [List.map_cons, List.flatten_cons, hoct]
    dsimp only
    refine ⟨X'.keeps F3.keep, ?_⟩
    obtain ⟨b, hb⟩ : ∃ b, b = ([97, 104, 101, 97, 100] ++ octsTo ns (3 + ns.length)).toArray := ⟨_, rfl⟩
    have hbl : b.size ≤ 1000 := by rw [hb, List.size_toArray, List.length_append]; exact Nat.le_trans (Nat.add_le_add_left hocl 5) (by (first | lia | omega))
    rw [← hb]
    refine' ctr_useN (mk_stream w b (by (first | lia | omega)) t3) B' F3 X' N3 T' rfl rfl (fun _ h => nomatch h) trivial ?c1 ?c2 ?_
    (case c1 => show dp + 1 + 5 < recursionLimit; (first | lia | omega))
    (case c2 => show un + 3 + 33 < cLine; (first | lia | omega))
    rintro v h7 tk7 F7 N7 st7 fr7 ⟨x, d, q, s1, s2, s3, rfl, xd, qx, qd, nx, nd, nq, gx, gd, gq⟩
    have xq : Opaq (x ≠ d ∧ q ≠ x ∧ q ≠ d) := ⟨xd, qx, qd⟩
    clear xd qx qd
    have N8 := News.cons (News.cons (News.cons (N7 _ fun p hp => ⟨hp, fun h => nomatch h⟩) gq (fr7 _ _ gq nq).1 (fr7 _ _ gq nq).2) gd (fr7 _ _ gd nd).1 (fr7 _ _ gd nd).2) gx (fr7 _ _ gx nx).1 (fr7 _ _ gx nx).2
    have offx := fun p hp => new_off N3 nx nd nq p hp
    clear N7 N3 F3
    have offx : ∀ p ∈ (wr, W.listOf (bVals ((#[97, 104, 101, 97, 100], t0') :: ws)).toArray cw) :: (it, W.listOf iv.toArray ci) :: fxLed a sh to el D T E c1 c2 c3 led, p.1 ≠ x ∧ p.1 ≠ d ∧ p.1 ≠ q := offx
    (repeat' ((fail_if_success (with_reducible show wpN _ _ _ _ _ _)); first | (k_unfold; (try dsimp only)) | (k_end; kc_close) | walk1 | (dsimp only; walk1) | (leave1; (try dsimp only))))
    refine wpN_execs_cons (wpN_of ?_)
    (repeat' ((fail_if_success (with_reducible show wpAny _ _ (call (Value.ref 337) _) _ _ _)); first | (k_unfold; (try dsimp only)) | (k_end; kc_close) | walk1 | (dsimp only; walk1) | (leave1; (try dsimp only))))
    rename Fr _ _ _ _ => F9; rename News _ _ _ _ => N9
    refine' stream_use (read_at w x d q b (by (first | lia | omega)) 0 s1 s2 s3 [97, 104, 101, 97, 100] ⟨[], octsTo ns (3 + ns.length), hb, rfl⟩ 5 rfl _ xq.out.1 xq.out.2.1 xq.out.2.2) B' F9 X' N9 T' rfl rfl offx ?c1 ?c2 ?_
    (case c1 => show dp + 1 + 6 < recursionLimit; (first | lia | omega))
    (case c2 => show un + 3 + 60 < cLine; (first | lia | omega))
    rintro v h10 tk10 s3' F10 N10 ⟨tv, rfl⟩
    clear N9 N8 F9
    (repeat' ((fail_if_success (with_reducible show wpN _ _ _ _ _ _)); first | (k_unfold; (try dsimp only)) | (k_end; kc_close) | walk1 | (dsimp only; walk1) | (leave1; (try dsimp only))))
    refine wpN_execs_cons (wpN_of ?_)
    rename Fr _ _ _ _ => F1; rename News _ _ _ _ => N1
    refine For_invV g (by rfl) (by rfl) ?_
    (repeat' ((fail_if_success (with_reducible show wpAny _ _ (pyIter _) _ _ _)); first | (k_unfold; (try dsimp only)) | (k_end; kc_close) | walk1 | (dsimp only; walk1) | (leave1; (try dsimp only))))
    rename Fr _ _ _ _ => F5; rename News _ _ _ _ => N5
    rename IsRange _ _ _ _ _ _ _ _ => hR
    have hDl : D.length = 3 + ns.length := by rw [S.lenD, heL]
    have hTl : T.length = 3 + ns.length := by rw [S.lenT, heL]
    obtain ⟨M1, hM1⟩ : ∃ M1 : Str → Option Value, M1 = (fun y => if y = Str.ofString "stream" then some (.ref x) else dMap na sh to el it wr u1 u2 u3 y) := ⟨_, rfl⟩
    have hB : ∀ y, M1 y = oBase x it sh to el na M1 y := peel (by rw [hM1]; rfl) (peel (by rw [hM1]; rfl) (peel (by rw [hM1]; rfl) (peel (by rw [hM1]; rfl) (peel (by rw [hM1]; rfl) (peel (by rw [hM1]; rfl) fun _ => rfl)))))
    have Nq : News g L' _ (strLed w x d q b (5 + (octsTo ns 0).length) s1 s2 s3' ++ oLed it sh to el iv D T E ci c1 c2 c3 ((wr, W.listOf (bVals ((#[97, 104, 101, 97, 100], t0') :: ws)).toArray cw) :: (a, ({ cls := .type "tuple", data := .seq #[.ref sh, .ref to, .ref el] } : Obj)) :: led)) := fun p hp => N5 p (by
      have hp : p ∈ (x, instObj 413 d) :: (d, bioDict w q (5 + (octsTo ns 0).length : Nat) s1 s2 s3') :: (q, baObj b) :: oLed it sh to el iv D T E ci c1 c2 c3 ((wr, W.listOf (bVals ((#[97, 104, 101, 97, 100], t0') :: ws)).toArray cw) :: (a, ({ cls := .type "tuple", data := .seq #[.ref sh, .ref to, .ref el] } : Obj)) :: led) := hp
      show p ∈ (x, instObj 413 d) :: (d, bioDict w q (5 + (octsTo ns 0).length : Nat) s1 s2 s3') :: (q, baObj b) :: (wr, W.listOf (bVals ((#[97, 104, 101, 97, 100], t0') :: ws)).toArray cw) :: (it, W.listOf iv.toArray ci) :: fxLed a sh to el D T E c1 c2 c3 led
      rcases List.mem_cons.mp hp with rfl | hp
      · exact .head _
      rcases List.mem_cons.mp hp with rfl | hp
      · exact .tail _ (.head _)
      rcases List.mem_cons.mp hp with rfl | hp
      · exact .tail _ (.tail _ (.head _))
      rcases List.mem_cons.mp hp with rfl | hp
      · exact .tail _ (.tail _ (.tail _ (.tail _ (.head _))))
      rcases List.mem_cons.mp hp with rfl | hp
      · exact .tail _ (.tail _ (.tail _ (.tail _ (.tail _ (.tail _ (.head _))))))
      rcases List.mem_cons.mp hp with rfl | hp
      · exact .tail _ (.tail _ (.tail _ (.tail _ (.tail _ (.tail _ (.tail _ (.head _)))))))
      rcases List.mem_cons.mp hp with rfl | hp
      · exact .tail _ (.tail _ (.tail _ (.tail _ (.tail _ (.tail _ (.tail _ (.tail _ (.head _))))))))
      rcases List.mem_cons.mp hp with rfl | hp
      · exact .tail _ (.tail _ (.tail _ (.head _)))
      rcases List.mem_cons.mp hp with rfl | hp
      · exact .tail _ (.tail _ (.tail _ (.tail _ (.tail _ (.head _)))))
      exact .tail _ (.tail _ (.tail _ (.tail _ (.tail _ (.tail _ (.tail _ (.tail _ (.tail _ (hp))))))))))
    have offq : ∀ p ∈ oLed it sh to el iv D T E ci c1 c2 c3 ((wr, W.listOf (bVals ((#[97, 104, 101, 97, 100], t0') :: ws)).toArray cw) :: (a, ({ cls := .type "tuple", data := .seq #[.ref sh, .ref to, .ref el] } : Obj)) :: led), p.1 ≠ x ∧ p.1 ≠ d ∧ p.1 ≠ q := fun p hp => by
      rcases List.mem_cons.mp hp with rfl | hp
      · exact offx _ (.tail _ (.head _))
      rcases List.mem_cons.mp hp with rfl | hp
      · exact offx _ (.tail _ (.tail _ (.tail _ (.head _))))
      rcases List.mem_cons.mp hp with rfl | hp
      · exact offx _ (.tail _ (.tail _ (.tail _ (.tail _ (.head _)))))
      rcases List.mem_cons.mp hp with rfl | hp
      · exact offx _ (.tail _ (.tail _ (.tail _ (.tail _ (.tail _ (.head _))))))
      rcases List.mem_cons.mp hp with rfl | hp
      · exact offx _ (.head _)
      rcases List.mem_cons.mp hp with rfl | hp
      · exact offx _ (.tail _ (.tail _ (.head _)))
      exact offx _ (.tail _ (.tail _ (.tail _ (.tail _ (.tail _ (.tail _ (hp)))))))
    refine iter_range (n := 3 + ns.length) (DK ns w x d q b s1 s2 (oBase x it sh to el na M1) (oLed it sh to el iv D T E ci c1 c2 c3 ((wr, W.listOf (bVals ((#[97, 104, 101, 97, 100], t0') :: ws)).toArray cw) :: (a, ({ cls := .type "tuple", data := .seq #[.ref sh, .ref to, .ref el] } : Obj)) :: led))) rfl hR (range_small _ (by (first | lia | omega))) (range_size _) F5 Nq ?_ ?_ ?_
    · exact ⟨⟨s3', rfl⟩, fun y _ => by rw [← hB y, hM1]⟩
    · rintro i t m₁ news₁ h tk I io hin hJ hio F2 N2 hoff
      refine turn2 w hI h1 hlen B' X' T' hdp hun hNl S hE (fun p hp => .tail _ (.tail _ hp)) (fun p hp => ?_) hiv hI1 hb hbl xq offq hin hJ F2 N2 hoff
      rcases List.mem_cons.mp hp with rfl | hp
      · k_cls
      rcases List.mem_cons.mp hp with rfl | hp
      · k_cls
      exact (S.cls p hp).2.2
    · rintro m₁ news₁ h tk ⟨⟨t3, rfl⟩, hA⟩ F2 N2
      obtain ⟨u, rfl⟩ : ∃ u, m₁ = eMap (oBase x it sh to el na M1) u := ⟨m₁, agree_map hA⟩
      clear hA hR F5 N5 Nq
      dsimp only
      refine wpN_execs_cons (wpN_of ?_)
      have hbs : b.size = 5 + (octsTo ns (3 + ns.length)).length := by rw [hb, List.size_toArray, List.length_append]; rfl
      have N3 : News g L' h ((x, instObj 413 d) :: (d, bioDict w q (5 + (octsTo ns (3 + ns.length)).length : Nat) s1 s2 t3) :: (q, baObj b) :: oLed it sh to el iv D T E ci c1 c2 c3 ((wr, W.listOf (bVals ((#[97, 104, 101, 97, 100], t0') :: ws)).toArray cw) :: (a, ({ cls := .type "tuple", data := .seq #[.ref sh, .ref to, .ref el] } : Obj)) :: led)) := N2
      clear N2
      (repeat' ((fail_if_success (with_reducible show wpAny _ _ (call (Value.ref 337) _) _ _ _)); first | (k_unfold; (try dsimp only)) | (k_end; kc_close) | walk1 | (dsimp only; walk1) | (leave1; (try dsimp only))))
      rename Fr _ _ _ _ => F7; rename News _ _ _ _ => N7
      have CR := read_all w x d q b (by (first | lia | omega)) (5 + (octsTo ns (3 + ns.length)).length) s1 s2 t3 (by (first | lia | omega)) xq.out.1 xq.out.2.1 xq.out.2.2
      rw [ext_nil b _ _ (by (first | lia | omega))] at CR
      refine' stream_use (PV := fun v => ∃ t, v = .bytes #[] t) CR B' F7 X' N7 T' rfl rfl offq ?c1 ?c2 ?_
      (case c1 => show dp + 1 + 6 < recursionLimit; (first | lia | omega))
      (case c2 => show un + 3 + 60 < cLine; (first | lia | omega))
      rintro v h8 tk8 t3' F8 N8 ⟨tv, rfl⟩
      clear CR
      have N9 : News g L' h8 ((q, baObj b) :: led) := fun p hp => N8 p (by
        rcases List.mem_cons.mp hp with rfl | hp
        · exact .tail _ (.tail _ (.head _))
        · exact .tail _ (.tail _ (.tail _ (.tail _ (.tail _ (.tail _ (.tail _ (.tail _ (.tail _ hp)))))))))
      clear N8
      (repeat' ((fail_if_success (with_reducible show wpN _ _ _ _ _ _)); first | (k_unfold; (try dsimp only)) | (k_end; kc_close) | walk1 | (dsimp only; walk1) | (leave1; (try dsimp only))))
      exact DoneC.intro F8 rfl
end Mine
end
section
open PySem PySem.W PySem.Spec PySem.Calls PyProof.Rows
namespace Mine
set_option maxRecDepth 100000
set_option maxHeartbeats 1000000
theorem gets_st (w : World) {h : Heap} {x d : Addr} {nm tp dc : Value} (X : (kk.heap_1 w.params).In h) (hx : h.get? x = some (stObj d nm tp dc)) (hd' : h.get? d = some emptyDict) :
    (handedIn nm = true → Gets w h (.ref x) (Str.ofString "name") nm) ∧ (handedIn tp = true → Gets w h (.ref x) (Str.ofString "obtype") tp) ∧ (handedIn dc = true → Gets w h (.ref x) (Str.ofString "doc") dc) := by
  have : Fill PySem.Challenge.rw_in0200_01 kk.heap_1 := by k_fill; trivial
  clear this
  have I : InstAt h x (stObj d nm tp dc) 107 (some emptyDict) := ⟨hx, rfl, rfl, hd'⟩
  refine ⟨fun hh => gets_slot X I (by k_is) (by k_is) (by k_is) (by k_is) (by k_is) (by k_is) rfl hh, fun hh => gets_slot X I (by k_is) (by k_is) (by k_is) (by k_is) (by k_is) (by k_is) rfl hh,
    fun hh => gets_slot X I (by k_is) (by k_is) (by k_is) (by k_is) (by k_is) (by k_is) rfl hh⟩
abbrev kn3 : List Str := [Str.ofString "name", Str.ofString "doc", Str.ofString "obtype"]
theorem lacks_str : pcs.all (fun p => match fastLookup "str" p with | some none => true | _ => false) = true := by decide +kernel
theorem lacks_int : pcs.all (fun p => match fastLookup "int" p with | some none => true | _ => false) = true := by decide +kernel
theorem lacks_type : pcs.all (fun p => match fastLookup "type" p with | some none => true | _ => false) = true := by decide +kernel
theorem pcs_short : pcs.all (fun p => decide (p.length ≤ 10)) = true := by decide +kernel
theorem misses_str (w : World) (h : Heap) (x : Str) (t : Tok) {p : Str} (hp : p ∈ pcs) : Misses w h (.str x t) p := by
  intro A Q E s u k hA hE
  have := of_decide_eq_true (List.all_eq_true.mp pcs_short p hp)
  exact getattr_miss_str (am_miss_of_fast (List.all_eq_true.mp lacks_str p hp)) hA hE (by rw [sizeLine_eq]; (first | lia | omega))
theorem misses_int (w : World) (h : Heap) {p : Str} (hp : p ∈ pcs) : Misses w h (.type "int") p := by
  intro A Q E s u k hA hE
  have := of_decide_eq_true (List.all_eq_true.mp pcs_short p hp)
  exact getattr_miss_int (am_miss_of_fast (List.all_eq_true.mp lacks_int p hp)) (am_miss_of_fast (List.all_eq_true.mp lacks_type p hp)) (by (first | lia | omega)) hA hE
theorem misses_st (w : World) {h : Heap} {x d : Addr} {nm tp dc : Value} (X : (kk.heap_1 w.params).In h) (hx : h.get? x = some (stObj d nm tp dc)) (hd' : h.get? d = some emptyDict) {p : Str} (hp : p ∈ pcs) (hk : p ∉ kn3) : Misses w h (.ref x) p := by
  intro A Q E s u k hA hE
  refine getattr_miss_st w (X.keeps k) (k _ _ hx) (k _ _ hd') ?_ hA hE
  simp only [List.mem_cons, List.not_mem_nil, or_false, not_or] at hp hk
  obtain ⟨a, b, c⟩ := hk
  rcases hp with hp | hp | hp | hp | hp | hp
  · exact absurd hp a
  · exact absurd hp b
  · exact absurd hp c
  · exact .inl hp
  · exact .inr (.inl hp)
  · exact .inr (.inr hp)
/-- the parts of a path from the first that isn't there on -/
def missing : List Str → List Str
  | [] => []
  | p :: r => if p ∈ kn3 then r else p :: r
def refMsg (m : List Str) (path nm : Str) : Str :=
  ((Str.ofString (if m.head? = some (Str.ofString "<locals>") then "Can't get local attribute " else "Can't get attribute ") ++ reprText path) ++ Str.ofString " on ") ++ nm
theorem CtrF.mono {w : World} {K : Frag} {f : Value} {vs : List Value} {Pre Pre' : List Env → Heap → Prop} {Exc : Heap → List Value → Prop} {d u : Nat} (C : CtrF w K f vs Pre Exc d u) (h : ∀ fr h, Pre' fr h → Pre fr h) : CtrF w K f vs Pre' Exc d u :=
  fun dp un gd fr base s R p loose mean mg mb B XB TB hpre => C dp un gd fr base s R p loose mean mg mb B XB TB (h _ _ hpre)
theorem pcs_of7 {p : Str} (hp : p ∈ pcs7) (h : p ≠ Str.ofString "<locals>") : p ∈ pcs := by
  simp only [List.mem_cons, List.not_mem_nil, or_false] at hp ⊢
  rcases hp with hp | hp | hp | hp | hp | hp | hp
  · exact .inl hp
  · exact .inr (.inl hp)
  · exact .inr (.inr (.inl hp))
  · exact absurd hp h
  · exact .inr (.inr (.inr (.inl hp)))
  · exact .inr (.inr (.inr (.inr (.inl hp))))
  · exact .inr (.inr (.inr (.inr (.inr hp))))
theorem locals_out : Str.ofString "<locals>" ∉ pcs := by decide +kernel
theorem kn_pcs {p : Str} (hp : p ∈ kn3) : p ∈ pcs := by
  simp only [List.mem_cons, List.not_mem_nil, or_false] at hp ⊢
  rcases hp with hp | hp | hp
  · exact .inl hp
  · exact .inr (.inl hp)
  · exact .inr (.inr (.inl hp))
theorem ga_refuse (w : World) (x d : Addr) (nm dc : Str) (tn td : Tok) (t : Tok) (ps : List Str) (hl : ps.length ≤ 3) (hp : ∀ p ∈ ps, p ∈ pcs7) (hm : missing ps ≠ []) (hnl : nm.length ≤ 100) :
    CtrF w (kk.heap_1 w.params) (.ref 35) [.ref x, .str (Txt.join (Str.ofString ".") ps) t] (fun fr h => (kk.heap_1 w.params).In h ∧ h.get? x = some (stObj d (.str nm tn) (.type "int") (.str dc td)) ∧ h.get? d = some emptyDict ∧ x ∉ fr.filterMap (·.frame) ∧ d ∉ fr.filterMap (·.frame))
      (fun _ xs => ∃ tt, xs = [.str (refMsg (missing ps) (Txt.join (Str.ofString ".") ps) nm) tt]) 10 100 := by
  obtain ⟨p0, r, rfl⟩ : ∃ p0 r, ps = p0 :: r := by
    cases ps with
    | nil => exact absurd rfl hm
    | cons p r => exact ⟨p, r, rfl⟩
  have hsp := split_join (List.cons_ne_nil p0 r) hp
  have hlen := path_len hl hp
  have hrl : (reprText (Txt.join (Str.ofString ".") (p0 :: r))).length ≤ 1000 := by
    rw [path_plain hp, Str.length_append, Str.length_append, quote_eq]
    have : (⟨#[39]⟩ : Str).length = 1 := rfl
    (first | lia | omega)
  have bad : ∀ pj : Str, pj ∈ pcs7 → (pj = Str.ofString "<locals>" ∧ refMsg [pj] (Txt.join (Str.ofString ".") (p0 :: r)) nm = ((Str.ofString "Can't get local attribute " ++ reprText (Txt.join (Str.ofString ".") (p0 :: r))) ++ Str.ofString " on ") ++ nm) ∨
      (pj ∈ pcs ∧ refMsg [pj] (Txt.join (Str.ofString ".") (p0 :: r)) nm = ((Str.ofString "Can't get attribute " ++ reprText (Txt.join (Str.ofString ".") (p0 :: r))) ++ Str.ofString " on ") ++ nm) := fun pj hpj => by
    by_cases e : pj = Str.ofString "<locals>"
    · exact .inl ⟨e, by show ((Str.ofString (if some pj = some (Str.ofString "<locals>") then _ else _) ++ _) ++ _) ++ _ = _; rw [if_pos (by rw [e])]⟩
    · exact .inr ⟨pcs_of7 hpj e, by show ((Str.ofString (if some pj = some (Str.ofString "<locals>") then _ else _) ++ _) ++ _) ++ _ = _; rw [if_neg (fun h => e (Option.some.inj h))]⟩
  have hm0 : ∀ pj q, refMsg (pj :: q) (Txt.join (Str.ofString ".") (p0 :: r)) nm = refMsg [pj] (Txt.join (Str.ofString ".") (p0 :: r)) nm := fun pj q => rfl
  by_cases hk : p0 ∈ kn3
  · have em : missing (p0 :: r) = r := by show (if p0 ∈ kn3 then r else p0 :: r) = r; rw [if_pos hk]
    rw [em] at hm ⊢
    obtain ⟨p1, q, rfl⟩ : ∃ p1 q, r = p1 :: q := by
      cases r with
      | nil => exact absurd rfl hm
      | cons p r => exact ⟨p, r, rfl⟩
    have hp1 := hp p1 (List.mem_cons_of_mem _ List.mem_cons_self)
    rw [hm0]
    refine (ga_bad w x d nm dc tn td (.type "int") _ t _ hsp (by (first | lia | omega)) hrl (by (first | lia | omega)) 1 p1 (fun i => if i = 0 then .ref x else if p0 = Str.ofString "name" then .str nm tn else if p0 = Str.ofString "doc" then .str dc td else .type "int") rfl rfl ?_ _ (bad p1 hp1)).mono ?_
    · intro i p hi e
      obtain rfl : i = 0 := by (first | lia | omega)
      obtain rfl : p0 = p := Option.some.inj e
      exact kn_pcs hk
    · rintro fr h ⟨X, hx, hd', n1, n2⟩
      have G := gets_st w X hx hd'
      refine ⟨hx, hd', n1, n2, fun i p hi e => ?_, fun h1 => ?_⟩
      · obtain rfl : i = 0 := by (first | lia | omega)
        obtain rfl : p0 = p := Option.some.inj e
        simp only [List.mem_cons, List.not_mem_nil, or_false] at hk
        rcases hk with rfl | rfl | rfl
        · exact G.1 rfl
        · exact G.2.2 rfl
        · exact G.2.1 rfl
      · simp only [List.mem_cons, List.not_mem_nil, or_false] at hk
        rcases hk with rfl | rfl | rfl
        · exact misses_str w h nm tn h1
        · exact misses_str w h dc td h1
        · exact misses_int w h h1
  · have em : missing (p0 :: r) = p0 :: r := by show (if p0 ∈ kn3 then r else p0 :: r) = p0 :: r; rw [if_neg hk]
    rw [em] at hm ⊢
    have hp0 := hp p0 List.mem_cons_self
    rw [hm0]
    refine (ga_bad w x d nm dc tn td (.type "int") _ t _ hsp (by (first | lia | omega)) hrl (by (first | lia | omega)) 0 p0 (fun _ => .ref x) rfl rfl (fun i p hi _ => absurd hi (Nat.not_lt_zero _)) _ (bad p0 hp0)).mono ?_
    rintro fr h ⟨X, hx, hd', n1, n2⟩
    exact ⟨hx, hd', n1, n2, fun i p hi e => absurd hi (Nat.not_lt_zero _), fun h1 => misses_st w X hx hd' h1 hk⟩
end Mine
end
section
open PySem PySem.W PySem.Spec PySem.Calls PyProof.Rows
namespace Mine
set_option maxRecDepth 100000
set_option maxHeartbeats 1000000
section
variable {w : World} {A : Around} {E : Value → Shared → Prop} {s : Shared} {h₀ : Heap} {L D : Addr} {news : Led} {o : Obj} {k nm : Str} {t tn td : Tok} {Q : Value → Shared → Prop}
abbrev knList (nm : Str) (tn td : Tok) : List (Str × Value) := [(Str.ofString "name", .str nm tn), (Str.ofString "doc", .str (Str.ofString "about it") td), (Str.ofString "obtype", .type "int")]
/-- the dict of what is known -/
def KnownD (w : World) (D : Addr) (o : Obj) (nm : Str) : Prop := (D == sysModules) = false ∧ ∃ tn td, o.IsDictOf (strKind PySem.Challenge.rw_in0200_01.row.prog w) (knList nm tn td)
theorem valueAt_kn (hk : k ∈ kn3) : (valueAt (knList nm tn td) k).isSome = true := by
  simp only [List.mem_cons, List.not_mem_nil, or_false] at hk
  rcases hk with rfl | rfl | rfl <;> rfl
theorem valueAt_not (hk : k ∉ kn3) : (valueAt (knList nm tn td) k).isSome = false := by
  simp only [List.mem_cons, List.not_mem_nil, or_false, not_or] at hk
  obtain ⟨a, b, c⟩ := hk
  unfold valueAt
  simp [Ne.symm a, Ne.symm b, Ne.symm c, a, b, c]
theorem in_known (N : News h₀ L s.heap news) (hm : (D, o) ∈ news) (K : KnownD w D o nm) (hk : k ∈ kn3) (h : Q (.bool true) { s with toks := s.toks + 1 }) :
    wpAny (model PySem.Challenge.rw_in0200_01.row.prog w) A (compareOp .In (.str k t) (.ref D)) Q E s := by
  obtain ⟨lo, tn, td, hd⟩ := K
  refine wpAny_in_of (strKind_is _ w k t) lo (Heap.dictOf_iff.mpr ⟨o, (N _ hm).1, hd⟩).mapOf ?_
  rw [valueAt_kn hk]
  exact h
theorem in_known_not (N : News h₀ L s.heap news) (hm : (D, o) ∈ news) (K : KnownD w D o nm) (hk : k ∉ kn3) (h : Q (.bool false) { s with toks := s.toks + 1 }) :
    wpAny (model PySem.Challenge.rw_in0200_01.row.prog w) A (compareOp .In (.str k t) (.ref D)) Q E s := by
  obtain ⟨lo, tn, td, hd⟩ := K
  refine wpAny_in_of (strKind_is _ w k t) lo (Heap.dictOf_iff.mpr ⟨o, (N _ hm).1, hd⟩).mapOf ?_
  rw [valueAt_not hk]
  exact h
theorem item_known {x : Str} {np : Pos} {slice : Expr} (N : News h₀ L s.heap news) (hm : (D, o) ∈ news) (K : KnownD w D o nm) (hk : k ∈ kn3)
    (h : ∀ v, (k = Str.ofString "name" → ∃ t, v = .str nm t) → (k = Str.ofString "doc" → ∃ t, v = .str (Str.ofString "about it") t) → (k = Str.ofString "obtype" → v = .type "int") → Q v { s with toks := s.toks + 1 })
    (hs : subscripted slice false (.ref D) (.str k t) = operate [.ref D, .str k t] (getItem (.ref D) (.str k t)) := by with_unfolding_all rfl) :
    wpAny (model PySem.Challenge.rw_in0200_01.row.prog w) A (subscriptTail (.Name x np) slice (.ref D) (.str k t)) Q E s := by
  obtain ⟨lo, tn, td, hd⟩ := K
  have hD := Heap.dictOf_iff.mpr ⟨o, (N _ hm).1, hd⟩
  have n1 : Str.ofString "doc" ≠ Str.ofString "name" := by decide
  have n2 : Str.ofString "obtype" ≠ Str.ofString "name" := by decide
  have n3 : Str.ofString "obtype" ≠ Str.ofString "doc" := by decide
  simp only [List.mem_cons, List.not_mem_nil, or_false] at hk
  rcases hk with rfl | rfl | rfl
  · exact subscriptTail_builtin hD.typeIs slot_dict_getitem.lookup (wpAny_getItem_of (v := .str nm tn) (strKind_is _ w _ t) hD.mapOf rfl (h _ (fun _ => ⟨_, rfl⟩) (fun e => absurd e.symm n1) fun e => absurd e.symm n2)) hs (fun _ => by with_unfolding_all rfl)
  · exact subscriptTail_builtin hD.typeIs slot_dict_getitem.lookup (wpAny_getItem_of (v := .str (Str.ofString "about it") td) (strKind_is _ w _ t) hD.mapOf rfl (h _ (fun e => absurd e n1) (fun _ => ⟨_, rfl⟩) fun e => absurd e.symm n3)) hs (fun _ => by with_unfolding_all rfl)
  · exact subscriptTail_builtin hD.typeIs slot_dict_getitem.lookup (wpAny_getItem_of (v := .type "int") (strKind_is _ w _ t) hD.mapOf rfl (h _ (fun e => absurd e n2) (fun e => absurd e n3) fun _ => rfl)) hs (fun _ => by with_unfolding_all rfl)
theorem item0 {x : Str} {np cp : Pos} {c : Const} {n : Nat} {vs : Array Value} {v : Str} {tv u : Tok} (N : News h₀ L s.heap news) (hm : (D, W.listOf vs 0) ∈ news) (hv : vs[0]? = some (.str v tv)) (h : Q (.str v tv) s) :
    wpAny (model PySem.Challenge.rw_in0200_01.row.prog w) A (subscriptTail (.Name x np) (.Constant c n cp) (.ref D) (.int 0 u)) Q E s :=
  item_listR (items := vs) ⟨_, (N _ hm).1, rfl, _, rfl⟩ (by decide) (by decide) hv h
theorem pcs7_ok : pcs7.all PyData.strOk = true := by decide +kernel
theorem strs_reads (h : Heap) : ∀ l : List (Str × Tok), ReadsAll h (strValues l) (l.map fun x => .str x.1) []
  | [] => .nil
  | (x, t) :: r => .cons (.str x t) (strs_reads h r)
theorem strs_lay : ∀ l : List (Str × Tok), (∀ x ∈ l, x.1 ∈ pcs7) → PyData.canLayAll0 (l.map fun x => PyData.str x.1) = true
  | [], _ => rfl
  | p :: r, h => by
    have := List.all_eq_true.mp pcs7_ok _ (h p List.mem_cons_self)
    simp [PyData.canLayAll0, PyData.canLay0, this, strs_lay r fun x hx => h x (List.mem_cons_of_mem _ hx)]
theorem strs_depth : ∀ l : List (Str × Tok), PyData.depthAll (l.map fun x => PyData.str x.1) = 0
  | [] => rfl
  | _ :: r => by simp [PyData.depthAll, PyData.depth, strs_depth r]
theorem strs_shaped (l : List (Str × Tok)) (h : ∀ x ∈ l, x.1 ∈ pcs7) : SeqAt.shaped (.list (l.map fun x => PyData.str x.1)) = true := by
  simp [SeqAt.shaped, PyData.canLay0, PyData.depth, strs_lay l h, strs_depth]
theorem ne_nil {l b : Addr} {ps : List (Str × Tok)} (hl : s.heap.IsList l (strValues ps).toArray) (hb : s.heap.IsList b #[]) (hps : ∀ x ∈ ps, x.1 ∈ pcs7) (hne : ps ≠ []) (hu : A.units + 64 < cLine) (h : Q (.bool true) s) :
    wpAny (model PySem.Challenge.rw_in0200_01.row.prog w) A (compareOp .NotEq (.ref l) (.ref b)) Q E s := by
  obtain ⟨o, ho, hc, n, hd⟩ := hl
  obtain ⟨o', ho', hc', n', hd'⟩ := hb
  refine PyProof.Rows.ne_dataH (Reads.list ho hc hd (by rw [List.toList_toArray]; exact strs_reads _ ps)) (Reads.list ho' hc' hd' (strs_reads _ [])) (strs_shaped ps hps) (strs_shaped [] fun _ h => nomatch h) hu ?_
  have : PyData.eqv (.list (ps.map fun x => PyData.str x.1)) (.list (([] : List (Str × Tok)).map fun x => PyData.str x.1)) = false := by
    cases ps with
    | nil => exact absurd rfl hne
    | cons p r => simp [PyData.eqv, PyData.eqvAll]
  rw [this]
  exact h
theorem eq_one {l b : Addr} {p q : Str} {tp tq : Tok} {r : Bool} (N : News h₀ L s.heap news) (hl : (l, W.listOf #[.str p tp] 0) ∈ news) (hb : (b, W.listOf #[.str q tq] 0) ∈ news) (hr : (p == q) = r) (hu : A.units < cLine) (h : Q (.bool r) s) :
    wpAny (model PySem.Challenge.rw_in0200_01.row.prog w) A (compareOp .Eq (.ref l) (.ref b)) Q E s := by
  refine SeqAt.eq_listAt (e := fun _ => p == q) (items := #[.str p tp]) (items2 := #[.str q tq]) ⟨_, (N _ hl).1, rfl, _, rfl⟩ ⟨_, (N _ hb).1, rfl, _, rfl⟩ rfl hu (fun j h1 h2 => ?_) ?_
  · have : j = 0 := by simp at h1; (first | lia | omega)
    subst this
    exact SeqAt.EqAt.str_str p tp q tq
  · rw [show ((List.range (#[Value.str p tp] : Array Value).size).all fun _ => p == q) = r from by simp [hr]]
    exact h
end
theorem ae_slot : Slot "AttributeError" "__str__" "AttributeError.__str__" := .of (owner := "AttributeError") (n := "__str__") (by rw [typeLookup_type, builtinLookup_eq_fast]; kernel_rfl) (by decide +kernel) (by decide +kernel) (by decide +kernel)
    (by first | exact .inl (by decide +kernel) | exact .inr (by decide +kernel)) (by rw [isSubtype_type]; kernel_rfl)
theorem ae_entry : entryFor table "AttributeError.__str__" = some Builtin.«BaseException.__str__» := entryFor_alias (id' := "BaseException.__str__") (by kernel_rfl) (by first | rfl | decide +kernel) (by decide +kernel) (by kernel_rfl)
theorem ae_args (a : Value) : argsOk "AttributeError.__str__" ⟨[a], []⟩ := by unfold argsOk; kernel_rfl
section
variable {prog : Program} {w : World} {A : Around} {E : Value → Shared → Prop} {s : Shared} {e t0 : Addr}
theorem strOf_ae (hu : A.units < cLine) {m : Str} {tk : Tok} {Q : Value → Shared → Prop} (x : s.heap.ExcAt e "AttributeError" (.ref t0)) (ht : s.heap.TupAt t0 [.str m tk]) (hq : Q (.str m tk) s) :
    wpAny (model prog w) A (Builtin.Str.strOf (.ref e)) Q E s := by
  unfold Builtin.Str.strOf
  repeat (first | with_reducible refine wpAny_cRoomFor hu ?_ | with_reducible refine wpAny_callSpecial?_slot x.typeIs ae_slot (wpAny_call_entry ae_slot x.typeIs ae_entry (bexcStr_entry_one x ht ⟨_, rfl, ?_⟩) (ae_args _)) | wp_step)
  exact hq
theorem str_of_ae (hu : A.units + 2 < cLine) {m : Str} {tk : Tok} {Q : Value → Shared → Prop} (x : s.heap.ExcAt e "AttributeError" (.ref t0)) (ht : s.heap.TupAt t0 [.str m tk]) (h : Q (.str m tk) s) :
    wpAny (model prog w) A (call (.type "str") [.ref e]) Q E s :=
  callType_new F.called_str (by decide) (F.typeCall_str_1 _) (F.newCall_str_1 _) (fun obj => F.args_object_init_2 obj _) F.entry_str_new
    (meets_str_new (S := fun A' R s' => A'.units + 1 < cLine ∧ s'.heap.ExcAt e "AttributeError" (.ref t0) ∧ s'.heap.TupAt t0 [.str m tk] ∧ R (.ok (.ret (.str m tk))) s')
      fun _ _ A' _ _ hq => strOf_ae (A := A'.in1) hq.1 hq.2.1 hq.2.2.1 hq.2.2.2)
    ⟨(show A.units + 1 + 1 < cLine from hu), x, ht, typeIs_str _ _ _, h⟩
/-- str of the error that was caught -/
theorem str_caught {h₀ : Heap} {L : Addr} {news : Led} {oe ot : Obj} {ws : Array Value} {nt : Nat} {m : Str} {tk : Tok} {Q : Value → Shared → Prop} (N : News h₀ L s.heap news) (m1 : (e, oe) ∈ news) (m2 : (t0, ot) ∈ news)
    (g1 : oe.cls = .type "AttributeError") (g2 : oe.data = .fields ws) (g3 : ws[0]? = some (.ref t0)) (g4 : ot.cls = .type "tuple") (g5 : ot.data = .seq [Value.str m tk].toArray nt) (hu : A.units + 2 < cLine) (h : Q (.str m tk) s) :
    wpAny (model prog w) A (call (.type "str") [.ref e]) Q E s :=
  str_of_ae hu ⟨oe, ws, (N _ m1).1, g1, g2, g3⟩ ⟨ot, nt, (N _ m2).1, g4, g5⟩ h
theorem str_add {x y : Str} {t u : Tok} {Q : Value → Shared → Prop} (hs : x.length + y.length ≤ 16777216) (h : ∀ t' k, Q (.str (x ++ y) t') { s with toks := k }) :
    wpAny (model prog w) A (binaryOp .Add (.str x t) (.str y u)) Q E s := SB.add h (by rw [sizeLine_eq]; exact hs)
theorem str_eq {x y : Str} {t u : Tok} {Q : Value → Shared → Prop} {r : Bool} (hr : (x == y) = r) (h : Q (.bool r) s) :
    wpAny (model prog w) A (compareOp .Eq (.str x t) (.str y u)) Q E s := PyProof.Rows.eq_str (by rw [hr]; exact h)
/-- the words of a refusal -/
theorem ref_words {m : List Str} {ps : List Str} {nm word : Str} (hp : ∀ p ∈ ps, p ∈ pcs7) (hw : word = if m.head? = some (Str.ofString "<locals>") then Str.ofString "local " else Str.ofString "") :
    refMsg m (Txt.join (Str.ofString ".") ps) nm = Str.ofString "Can't get " ++ word ++ Str.ofString "attribute '" ++ Txt.join (Str.ofString ".") ps ++ Str.ofString "' on " ++ nm := by
  have e1 : Str.ofString "Can't get local attribute " ++ Str.ofString "'" = Str.ofString "Can't get " ++ Str.ofString "local " ++ Str.ofString "attribute '" := by decide +kernel
  have e2 : Str.ofString "Can't get attribute " ++ Str.ofString "'" = Str.ofString "Can't get " ++ Str.ofString "" ++ Str.ofString "attribute '" := by decide +kernel
  have e3 : Str.ofString "'" ++ Str.ofString " on " = Str.ofString "' on " := by decide +kernel
  unfold refMsg
  rw [path_plain hp]
  by_cases h : m.head? = some (Str.ofString "<locals>")
  · rw [if_pos h] at hw
    rw [if_pos h, hw, ← e3, ← e1]
    simp only [Str.append_assoc]
  · rw [if_neg h] at hw
    rw [if_neg h, hw, ← e3, ← e2]
    simp only [Str.append_assoc]
end
end Mine
end
section
open PySem PySem.W PySem.Spec PySem.Calls PyProof.Rows
namespace Mine
set_option maxRecDepth 100000
set_option maxHeartbeats 4000000
local macro_rules | `(tactic| ktb_isTup) => `(tactic| exact ⟨_, News.get (by k_asm) (by k_mem), rfl, _, rfl⟩)
theorem lits : (Str.ofString "Can't get ").length ≤ 50 ∧ (Str.ofString "local ").length ≤ 50 ∧ (Str.ofString "").length ≤ 50 ∧ (Str.ofString "attribute '").length ≤ 50 ∧ (Str.ofString "' on ").length ≤ 50 := by decide +kernel
theorem getD_mem7 {k : Nat} (h : k < 1 + 1 + 1 + 1 + 1 + 1 + 1) : ∃ p, List.getD pcs7 k Str.empty = p ∧ p ∈ pcs7 := by
  refine ⟨_, rfl, ?_⟩
  rw [List.getD_eq_getElem?_getD, List.getElem?_eq_getElem (show k < pcs7.length from h)]
  exact List.getElem_mem _
theorem join_fine {ps : List Str} (hl : ps.length ≤ 3) (hp : ∀ p ∈ ps, p ∈ pcs7) : JoinOk (Str.ofString ".") ps = true := by
  have h1 : (Str.ofString ".").length = 1 := by rw [dot_eq]; rfl
  have e : ∀ (l : List Str) (n : Nat), (∀ p ∈ l, p ∈ pcs7) → l.foldl (· + ·.length + (Str.ofString ".").length) n ≤ n + l.length * 9 := by
    intro l
    induction l with
    | nil => intro n _; simp
    | cons p r ih =>
      intro n h
      have h8 := (pcs7_c (h p List.mem_cons_self)).2
      have := ih (n + p.length + (Str.ofString ".").length) fun q hq => h q (List.mem_cons_of_mem _ hq)
      rw [List.foldl_cons, List.length_cons]
      (first | lia | omega)
  have := e ps 0 hp
  unfold JoinOk Builtin.Str.tooLong
  rw [List.foldl_toArray, sizeLine_eq]
  simp only [Bool.not_eq_true', decide_eq_false_iff_not]
  (first | lia | omega)
theorem ctrF_use {w : World} {K : Frag} {f : Value} {vs : List Value} {Pre : List Env → Heap → Prop} {Exc : Heap → List Value → Prop} {d u : Nat} (C : CtrF w K f vs Pre Exc d u)
    {A₀ : Around} {base h₀ : Heap} {outer : List Env} {name : Str} {scope : Scope} {L a : Addr} {cd : Value} {m : Str → Option Value} {s : Shared} {own : Led} {dp un : Nat} {gd : Option (List Code)}
    {p : Program} {loose : List Str} {mean : ExcName → Option Value} {mg mb : Str → Option Value} {Q E : Value → Shared → Prop}
    (B : Below A₀ base outer h₀) (F : Fr h₀ L s.heap m) (N : News h₀ L s.heap own) (XB : K.In base) (TB : Top p loose mean mg mb base) (hk : scope.kind = .function)
    (hpre : Pre (envOf name scope L a cd :: outer) s.heap) (hd : dp + d < recursionLimit) (hu : un + u < cLine)
    (ret : ∀ (h' : Heap) (e t : Addr) (tk' : Nat) (xs : List Value), RaisedS base (gOf s.heap own) (envOf name scope L a cd :: outer) e (.type "AttributeError") t xs own h' → Fr h₀ L (gOf s.heap own) m → (gOf s.heap own).UpToSlots h' → Exc s.heap xs →
      E (.ref e) { s with heap := h', toks := tk' }) :
    wpAny (model PySem.Challenge.rw_in0200_01.row.prog w) (arr dp un gd (envOf name scope L a cd :: outer)) (call f vs) Q E s := by
  have BP := B.push (name := name) (a := a) (cd := cd) F hk
  have BP' : Below (arr dp un gd (envOf name scope L a cd :: outer)) base (envOf name scope L a cd :: outer) s.heap := ⟨rfl, BP.stays, BP.frames⟩
  refine wpAny_call (C dp un gd (envOf name scope L a cd :: outer) base s _ p loose mean mg mb BP' XB TB hpre hd hu fun h' e t tk' xs RS up hx => ?_)
  obtain ⟨R2, F2⟩ := raised_own B rfl F N RS
  exact ret h' e t tk' xs R2 F2 ((Heap.UpToSlots.of_keeps fun b o q => of_hideAll _ q).trans up) hx
theorem not_tuple_AE : isSubtype (.type ((Manifest.find? "AttributeError").elim "type" fun y => y.metatype)) (.type "tuple") = pure false := by rw [isSubtype_type]; kernel_rfl
theorem notin_frames {base g : Heap} {A₀ : Around} {outer : List Env} {name : Str} {scope : Scope} {L a b : Addr} {cd : Value} (B : Below A₀ base outer g) (h1 : b ≠ L) (h2 : g.get? b = none) : b ∉ (envOf name scope L a cd :: outer).filterMap (·.frame) := fun hm => by
  rcases kts_mem hm with z | z
  · exact h1 z
  · obtain ⟨o, ho, _⟩ := (B.frames.mem z).2
    rw [h2] at ho; cases ho
theorem kd_of {w : World} {D : Addr} {o : Obj} {nm : Str} {tn td : Tok} (lo : (D == sysModules) = false) (h : o.IsDictOf (strKind PySem.Challenge.rw_in0200_01.row.prog w) (knList nm tn td)) : KnownD w D o nm := ⟨lo, tn, td, h⟩
theorem missing_not {p0 : Str} {r : List Str} (hk : p0 ∉ kn3) : missing (p0 :: r) = p0 :: r := by show (if p0 ∈ kn3 then r else p0 :: r) = _; rw [if_neg hk]
theorem missing_kn {p0 : Str} {r : List Str} (hk : p0 ∈ kn3) : missing (p0 :: r) = r := by show (if p0 ∈ kn3 then r else p0 :: r) = _; rw [if_pos hk]
abbrev knV (p nm dc : Str) (tn td : Tok) : Value := if p = Str.ofString "name" then .str nm tn else if p = Str.ofString "doc" then .str dc td else .type "int"
theorem ga_one (w : World) (x d : Addr) (nm dc : Str) (tn td : Tok) (p : Str) (t : Tok) (hk : p ∈ kn3) :
    Ctr w (kk.heap_1 w.params) (.ref 35) [.ref x, .str (Txt.join (Str.ofString ".") [p]) t] [] (fun h => (kk.heap_1 w.params).In h ∧ h.get? x = some (stObj d (.str nm tn) (.type "int") (.str dc td)) ∧ h.get? d = some emptyDict)
      (fun h v h' => ∃ a, v = .ref a ∧ h.get? a = none ∧ h'.get? a = some { cls := .type "tuple", data := .seq #[knV p nm dc tn td, .ref x] }) 10 100 := by
  have h7 : ∀ q ∈ [p], q ∈ pcs7 := by
    intro q hq
    simp only [List.mem_cons, List.not_mem_nil, or_false] at hq hk ⊢
    subst hq
    rcases hk with h | h | h
    · exact .inl h
    · exact .inr (.inl h)
    · exact .inr (.inr (.inl h))
  have C := ga_ok w (.ref x) (Txt.join (Str.ofString ".") [p]) t [p] (fun i => if i = 0 then .ref x else knV p nm dc tn td) (split_join (List.cons_ne_nil _ _) h7) (Nat.le_trans (path_len (Nat.le_of_ble_eq_true rfl) h7) (by decide)) rfl
    (fun q hq => by simp only [List.mem_cons, List.not_mem_nil, or_false] at hq; subst hq; exact kn_pcs hk) (List.cons_ne_nil _ _)
  intro dp un gd fr s R S hH hpre hdp hu ret
  obtain ⟨X, hx, hd'⟩ := hpre
  have G := gets_st w X hx hd'
  refine C dp un gd fr s R S hH (fun i q e => ?_) hdp hu ret
  obtain rfl : i = 0 := by
    cases i with
    | zero => rfl
    | succ i => simp at e
  obtain rfl : p = q := Option.some.inj e
  simp only [List.mem_cons, List.not_mem_nil, or_false] at hk
  rcases hk with rfl | rfl | rfl
  · exact G.1 rfl
  · exact G.2.2 rfl
  · exact G.2.1 rfl
section
variable {prog : Program} {w : World} {A : Around} {E : Value → Shared → Prop} {s : Shared} {h₀ : Heap} {L l : Addr} {m : Str → Option Value} {news : Led} {value slice : PySem.Expr} {Q : Value → Shared → Prop}
theorem slice3 (F : Fr h₀ L s.heap m) (N : News h₀ L s.heap news) {p0 p1 p2 : Str} {a b c tM : Tok} {M : Int} (hm : (l, W.listOf #[.str p0 a, .str p1 b, .str p2 c] 0) ∈ news) (m0 : p0 ∈ pcs7) (m1 : p1 ∈ pcs7) (m2 : p2 ∈ pcs7) (hM : M = 1 ∨ M = 2 ∨ M = 3)
    (h : ∀ (q : Str) (tq : Tok) (r : List (Str × Tok)) D h', ((q, tq) :: r).length ≤ 3 → (∀ x ∈ (q, tq) :: r, x.1 ∈ pcs7) → Fr h₀ L h' m → News h₀ L h' ((D, W.listOf (strValues ((q, tq) :: r)).toArray 0) :: news) → Q (.ref D) { s with heap := h' })
    (hs : subscripted slice false (.ref l) (.ref s.heap.objs.size) = operate [.ref s.heap.objs.size, .ref l] (getItem (.ref l) (.ref s.heap.objs.size))) (ht : ∀ r, letTemporaryGo value (.ref l) r = pure ()) :
    wpAny (model prog w) A (subscriptTail value slice (.ref l) (.ref s.heap.objs.size)) Q E { s with heap := s.heap.push { cls := .type "slice", data := .fields #[.none, .int M tM, .none] } } := by
  have hl : s.heap.IsList l #[.str p0 a, .str p1 b, .str p2 c] := ⟨_, (N _ hm).1, rfl, _, rfl⟩
  have hz : (#[.str p0 a, .str p1 b, .str p2 c] : Array Value).size ≤ sizeLine := by rw [sizeLine_eq]; exact Nat.le_of_ble_eq_true rfl
  rcases hM with rfl | rfl | rfl
  · exact kms_slice_lit F N hl .none (.int _ _) (zs := strValues [(p0, a)]) rfl (fun D h' F' N' _ => h _ _ _ D h' (Nat.le_of_ble_eq_true rfl) (by intro x hx; simp only [List.mem_cons, List.not_mem_nil, or_false] at hx; subst hx; exact m0) F' N') hs ht hz
  · exact kms_slice_lit F N hl .none (.int _ _) (zs := strValues [(p0, a), (p1, b)]) rfl (fun D h' F' N' _ => h _ _ _ D h' (Nat.le_of_ble_eq_true rfl) (by intro x hx; simp only [List.mem_cons, List.not_mem_nil, or_false] at hx; rcases hx with rfl | rfl <;> assumption) F' N') hs ht hz
  · exact kms_slice_lit F N hl .none (.int _ _) (zs := strValues [(p0, a), (p1, b), (p2, c)]) rfl (fun D h' F' N' _ => h _ _ _ D h' (Nat.le_of_ble_eq_true rfl) (by intro x hx; simp only [List.mem_cons, List.not_mem_nil, or_false] at hx; rcases hx with rfl | rfl | rfl <;> assumption) F' N') hs ht hz
theorem slice_tl (F : Fr h₀ L s.heap m) (N : News h₀ L s.heap news) {q : Str} {tq tM : Tok} {r : List (Str × Tok)} (hr : r.length ≤ 100) (hm : (l, W.listOf (strValues ((q, tq) :: r)).toArray 0) ∈ news)
    (h : ∀ D h', Fr h₀ L h' m → News h₀ L h' ((D, W.listOf (strValues r).toArray 0) :: news) → Q (.ref D) { s with heap := h' })
    (hs : subscripted slice false (.ref l) (.ref s.heap.objs.size) = operate [.ref s.heap.objs.size, .ref l] (getItem (.ref l) (.ref s.heap.objs.size))) (ht : ∀ r, letTemporaryGo value (.ref l) r = pure ()) :
    wpAny (model prog w) A (subscriptTail value slice (.ref l) (.ref s.heap.objs.size)) Q E { s with heap := s.heap.push { cls := .type "slice", data := .fields #[.int 1 tM, .none, .none] } } := by
  refine kms_slice_lit F N ⟨_, (N _ hm).1, rfl, _, rfl⟩ (.int _ _) .none (zs := strValues r) ?_ (fun D h' F' N' _ => h D h' F' N') hs ht (by rw [sizeLine_eq]; simp [strValues]; (first | lia | omega))
  rw [List.toList_toArray]
  have e : strValues ((q, tq) :: r) = .str q tq :: strValues r := rfl
  unfold kms_pick
  rw [e]
  have e1 : kms_lo (some 1) (Value.str q tq :: strValues r).length = 1 := by
    simp only [kms_lo, List.length_cons]
    rw [if_neg (by decide)]
    show min 1 _ = 1
    (first | lia | omega)
  rw [e1]
  show List.take _ (strValues r) = _
  exact List.take_of_length_le (by simp [kms_hi])
theorem slice_hd (F : Fr h₀ L s.heap m) (N : News h₀ L s.heap news) {q : Str} {tq tM : Tok} {r : List (Str × Tok)} (hr : r.length ≤ 100) (hm : (l, W.listOf (strValues ((q, tq) :: r)).toArray 0) ∈ news)
    (h : ∀ D h', Fr h₀ L h' m → News h₀ L h' ((D, W.listOf #[.str q tq] 0) :: news) → Q (.ref D) { s with heap := h' })
    (hs : subscripted slice false (.ref l) (.ref s.heap.objs.size) = operate [.ref s.heap.objs.size, .ref l] (getItem (.ref l) (.ref s.heap.objs.size))) (ht : ∀ r, letTemporaryGo value (.ref l) r = pure ()) :
    wpAny (model prog w) A (subscriptTail value slice (.ref l) (.ref s.heap.objs.size)) Q E { s with heap := s.heap.push { cls := .type "slice", data := .fields #[.none, .int 1 tM, .none] } } := by
  refine kms_slice_lit F N ⟨_, (N _ hm).1, rfl, _, rfl⟩ .none (.int _ _) (zs := [.str q tq]) ?_ (fun D h' F' N' _ => h D h' F' N') hs ht (by rw [sizeLine_eq]; simp [strValues]; (first | lia | omega))
  rw [List.toList_toArray]
  have e : strValues ((q, tq) :: r) = .str q tq :: strValues r := rfl
  unfold kms_pick
  rw [e]
  have e1 : kms_hi (some 1) (Value.str q tq :: strValues r).length = 1 := by
    simp only [kms_hi, List.length_cons]
    rw [if_neg (by decide)]
    show min 1 _ = 1
    (first | lia | omega)
  rw [e1]
  rfl
/-- two ways of an expression met again -/
def Met (g : Heap) (L : Addr) (m : Str → Option Value) (R : Value → Led → Prop) (s : Shared) (v : Value) (s' : Shared) : Prop := ∃ nn h' tk', s' = { s with heap := h', toks := tk' } ∧ Fr g L h' m ∧ News g L h' nn ∧ R v nn
theorem merge_v {g h : Heap} {L : Addr} {m : Str → Option Value} {t : Sem Value} (_ : Fr g L h m) (R : Value → Led → Prop)
    (h1 : wpAny (model prog w) A t (Met g L m R s) E s)
    (h2 : ∀ v nn h' tk', Fr g L h' m → News g L h' nn → R v nn → Q v { s with heap := h', toks := tk' }) : wpAny (model prog w) A t Q E s :=
  wpAny_mono h1 (fun v s' hq => by obtain ⟨nn, h', tk', rfl, F, N, r⟩ := hq; exact h2 v nn h' tk' F N r) fun _ _ x => x
theorem news3 {g h : Heap} {L : Addr} {a b c : Addr × Obj} {nn : Led} (N : News g L h nn) (ha : a ∈ nn) (hb : b ∈ nn) (hc : c ∈ nn) : News g L h [a, b, c] := fun q hq => by
  rcases List.mem_cons.mp hq with rfl | hq
  · exact N _ ha
  rcases List.mem_cons.mp hq with rfl | hq
  · exact N _ hb
  rcases List.mem_cons.mp hq with rfl | hq
  · exact N _ hc
  exact absurd hq List.not_mem_nil
end
theorem missing_nil {q : Str} {r : List Str} (h : missing (q :: r) = []) : r = [] ∧ q ∈ kn3 := by
  by_cases hk : q ∈ kn3
  · rw [missing_kn hk] at h; exact ⟨h, hk⟩
  · rw [missing_not hk] at h; exact absurd h (List.cons_ne_nil _ _)
theorem refusal (w : World) (x : Int) (tx : Tok) :
    CtrT w (kk.heap_1 w.params) (.ref 695) [.int x tx] (fun _ v _ => v = .bool true) 30 300 := by
  have : Fill PySem.Challenge.rw_in0200_01 kk.heap_1 := by k_fill; trivial
  clear this
  refine ctr_enterT [(Str.ofString "x", .int x tx)] (by k_is) (by k_is) (fun s X => BindsTo.of_eq rfl) (locs rfl) ?_
  intro dp un gd fr base p loose mean mg mb s L' h₁ tk B XB X' TB T' D hdp hun F' N'
  k_with "table" => skip
  (repeat' ((fail_if_success (with_reducible show wpAny _ _ (subscriptTail (Expr.List _ _) _ _ _) _ _ _)); first | (k_unfold; (try dsimp only)) | (k_end; kc_close) | walk1 | (dsimp only; walk1) | (leave1; (try dsimp only))))
  dsimp only
  rename Fr _ _ _ _ => F1; rename News _ _ _ _ => N1
  rename (Int.toNat (Int.fmod (Int.fdiv x 49) 7) < _) => u2
  rename (Int.toNat (Int.fmod (Int.fdiv x 7) 7) < _) => u1
  rename (Int.toNat (Int.fmod x 7) < _) => u0
  obtain ⟨p0, e0, m0⟩ := getD_mem7 u0
  obtain ⟨p1, e1, m1⟩ := getD_mem7 u1
  obtain ⟨p2, e2, m2⟩ := getD_mem7 u2
  rw [e0, e1, e2] at N1
  clear u0 u1 u2 e0 e1 e2
  refine kba_turn (value' := PySem.Expr.Name (Str.ofString "_") ⟨0, 0, 0, 0⟩) (fun _ => rfl) ?_
  refine' slice3 (s := ⟨_, _, _, _, _⟩) F1 N1 ?hm m0 m1 m2 ?hM ?_ ?hs ?ht
  (case hm => k_mem)
  (case hM => have z1 := Int.fmod_nonneg_of_pos (x.fdiv 343) (show (0 : Int) < 3 by decide); have z2 := Int.fmod_lt_of_pos (x.fdiv 343) (show (0 : Int) < 3 by decide); (first | lia | omega))
  (case hs => with_unfolding_all rfl)
  (case ht => exact fun _ => rfl)
  intro q0 tq r D1 h2 hlen hps F2 N2
  have N3 : News s.heap L' h2 [(D1, W.listOf (strValues ((q0, tq) :: r)).toArray 0)] := fun q hq => N2 q (by
    rcases List.mem_cons.mp hq with rfl | hq
    · exact .head _
    · exact absurd hq List.not_mem_nil)
  clear N2 F1 N1 m0 m1 m2 p0 p1 p2
  dsimp only
  obtain ⟨ns, hns⟩ : ∃ ns, ns = r.map (·.1) := ⟨_, rfl⟩
  have hps' : ∀ p ∈ q0 :: ns, p ∈ pcs7 := fun p hp => by
    rcases List.mem_cons.mp hp with rfl | hp
    · exact hps _ (.head _)
    · rw [hns] at hp
      obtain ⟨z, hz, rfl⟩ := List.mem_map.mp hp
      exact hps z (.tail _ hz)
  have hlen' : (q0 :: ns).length ≤ 3 := by rw [hns]; simpa using hlen
  have hpl := path_len hlen' hps'
  (repeat' ((fail_if_success (with_reducible show wpAny _ _ (call (Value.builtin "str.join") _) _ _ _)); first | (k_unfold; (try dsimp only)) | (k_end; kc_close) | walk1 | (dsimp only; walk1) | (leave1; (try dsimp only))))
  rename Fr _ _ _ _ => F4; rename News _ _ _ _ => N4
  refine SC.join (l := (q0, tq) :: r) (texts := q0 :: ns) ⟨_, (N4 _ (.head _)).1, rfl, _, rfl⟩ (by rw [hns]; rfl) (join_fine hlen' hps') ?_
  intro t1 k1
  (repeat' ((fail_if_success (with_reducible show wpAny _ _ (binaryOp Operator.Mod (Value.str _ _) _) _ _ _)); first | (k_unfold; (try dsimp only)) | (k_end; kc_close) | walk1 | (dsimp only; walk1) | (leave1; (try dsimp only))))
  refine pct_kind (Int.fmod_nonneg_of_pos x (show (0 : Int) < 1000 by decide)) (by have := Int.fmod_lt_of_pos x (show (0 : Int) < 1000 by decide); (first | lia | omega)) fun t2 k2 => ?_
  dsimp only
  have hnl : (Str.ofString "kind " ++ Str.ofString (toString (x.fmod 1000))).length ≤ 100 := Nat.le_trans (pct_len (Int.fmod_nonneg_of_pos x (show (0 : Int) < 1000 by decide)) (by have := Int.fmod_lt_of_pos x (show (0 : Int) < 1000 by decide); (first | lia | omega))) (by decide +kernel)
  generalize (Str.ofString "kind " ++ Str.ofString (toString (x.fmod 1000))) = nm at hnl ⊢
  (repeat' ((fail_if_success (with_reducible show wpAny _ _ (call (Value.ref 107) _) _ _ _)); first | (k_unfold; (try dsimp only)) | (k_end; kc_close) | walk1 | (dsimp only; walk1) | (leave1; (try dsimp only))))
  rename Fr _ _ _ _ => F5; rename News _ _ _ _ => N5
  refine' ctr_use0 (mk_st w _ _ _ _) B F5 X' N5 T' rfl rfl trivial ?c9 ?c10 ?_
  (case c9 => simp only [recursionLimit] at *; (first | lia | omega))
  (case c10 => simp only [cLine] at *; (first | lia | omega))
  rintro v h4 tk4 F6 N6 st4 fr4 ⟨a, d, rfl, ad1, ad2, ax, adn, ha, hd'⟩
  have qa := fr4 _ _ ha ax
  have qd := fr4 _ _ hd' adn
  have N7 := News.cons (News.cons N6 hd' (fr4 _ _ hd' adn).1 (fr4 _ _ hd' adn).2) ha (fr4 _ _ ha ax).1 (fr4 _ _ ha ax).2
  clear N6 N5 F5
  (repeat' ((fail_if_success (with_reducible show wpAny _ _ (call (Value.ref 35) _) _ _ _)); first | (k_unfold; (try dsimp only)) | (k_end; kc_close) | walk1 | (dsimp only; walk1) | (leave1; (try dsimp only))))
  rename (Obj.IsDictOf _ _ _) => hdk
  rename (_ == sysModules) = false => lok
  have KD := kd_of (nm := nm) lok hdk
  clear hdk lok
  rename Fr _ _ _ _ => F8; rename News _ _ _ _ => N8
  by_cases hmi : missing (q0 :: ns) = []
  · obtain ⟨rfl, hk⟩ := missing_nil hmi
    have hk' : Txt.join (Str.ofString ".") [q0] ∈ kn3 := hk
    refine' ctr_use0 (ga_one w a d nm (Str.ofString "about it") _ _ q0 _ hk) B F8 X' N8 T' rfl rfl ⟨X'.keeps F8.keep, N8.get (by k_mem), N8.get (by k_mem)⟩ ?c9 ?c10 ?_
    (case c9 => show dp + 1 + 10 < recursionLimit; (first | lia | omega))
    (case c10 => show un + 3 + 100 < cLine; (first | lia | omega))
    rintro v h7 tk7 F9 N9 st7 fr7 ⟨a1, rfl, ha1, hv1⟩
    generalize hkv : knV q0 nm _ _ _ = kv at hv1
    have N10 := News.cons N9 hv1 (fr7 _ _ hv1 ha1).1 (fr7 _ _ hv1 ha1).2
    clear N9 F8 N8
    (repeat' ((fail_if_success (with_reducible show wpAny _ _ (compareOp CmpOp.In _ _) _ _ _)); first | (k_unfold; (try dsimp only)) | (k_end; kc_close) | walk1 | (dsimp only; walk1) | (leave1; (try dsimp only))))
    rename News _ _ _ _ => N11
    refine in_known N11 (by k_mem) KD hk' ?_
    (repeat' ((fail_if_success (with_reducible show wpAny _ _ (subscriptTail _ _ _ _) _ _ _)); first | (k_unfold; (try dsimp only)) | (k_end; kc_close) | walk1 | (dsimp only; walk1) | (leave1; (try dsimp only))))
    rename News _ _ _ _ => N11
    refine item_known N11 (by k_mem) KD hk' fun v e1 e2 e3 => ?_
    dsimp only
    (repeat' ((fail_if_success (with_reducible show wpAny _ _ (compareOp CmpOp.Eq _ _) _ _ _)); first | (k_unfold; (try dsimp only)) | (k_end; kc_close) | walk1 | (dsimp only; walk1) | (leave1; (try dsimp only))))
    simp only [List.mem_cons, List.not_mem_nil, or_false] at hk
    rcases hk with rfl | rfl | rfl
    · obtain ⟨tv, rfl⟩ := e1 rfl
      obtain rfl : Value.str nm _ = kv := (if_pos rfl).symm.trans hkv
      k_steps
      rename Fr _ _ _ _ => F9
      exact DoneT.intro KtsTurn.refl F9 (congrArg Value.bool (beq_self_eq_true nm))
    · obtain ⟨tv, rfl⟩ := e2 rfl
      obtain rfl : Value.str _ _ = kv := ((if_neg (by decide)).trans (if_pos rfl)).symm.trans hkv
      k_steps
      rename Fr _ _ _ _ => F9
      exact DoneT.intro KtsTurn.refl F9 rfl
    · obtain rfl := e3 rfl
      obtain rfl : Value.type "int" = kv := ((if_neg (by decide)).trans (if_neg (by decide))).symm.trans hkv
      k_steps
      rename Fr _ _ _ _ => F9
      exact DoneT.intro KtsTurn.refl F9 rfl
  · refine' ctrF_use (ga_refuse w a d nm _ _ _ _ (q0 :: ns) hlen' hps' hmi hnl) B F8 N8 XB TB ?c1 ?c2 ?c3 ?c4 ?_
    (case c1 => rfl)
    (case c2 => exact ⟨X'.keeps F8.keep, N8.get (by k_mem), N8.get (by k_mem), notin_frames B qa.1 qa.2, notin_frames B qd.1 qd.2⟩)
    (case c3 => show dp + 1 + 10 < recursionLimit; (first | lia | omega))
    (case c4 => show un + 3 + 100 < cLine; (first | lia | omega))
    rintro h7 e7 t7 tk7 xs7 R7 F7 up7 ⟨tt, rfl⟩
    clear F8 N8
    refine' caught_SB (KF := kk.heap_1 w.params) (T' := "AttributeError") (X := "AttributeError") R7 F7 B up7 XB TB D KtsTurn.refl ?e1 ?e2 ?e3 subBE not_tuple_AE sub_AttributeError ?_
    (case e1 => k_is)
    (case e2 => kernel_rfl)
    (case e3 => decide)
    intro h8 g8 news8 tk8 T8 F8 N8 G8 NL8 B8 X8 P8 D8
    clear R7 F7 up7
    obtain ⟨oe, ot, ws, nt, me1, me2, g1, g2, g3, g4, g5⟩ := G8
    have NA : News g8 L' h8 ((e7, oe) :: (t7, ot) :: _) := News.cons (News.cons NL8 (N8 _ me2).1 (N8 _ me2).2.1 (N8 _ me2).2.2) (N8 _ me1).1 (N8 _ me1).2.1 (N8 _ me1).2.2
    clear NL8 N8 me1 me2
    dsimp only
    obtain ⟨z1, z2, z3, z4, z5⟩ := lits
    (repeat' ((fail_if_success (with_reducible show wpAny _ _ (eval (PySem.Expr.IfExp _ _ _ _) _) _ _ _)); first | (k_unfold; (try dsimp only)) | (k_end; kc_close) | walk1 | (dsimp only; walk1) | (leave1; (try dsimp only))))
    rename Fr _ _ _ _ => F9; rename News _ _ _ _ => N9
    refine merge_v F9 (fun v nn => ∃ l m0 tm mr, v = .ref l ∧ nn = [(e7, oe), (t7, ot), (l, W.listOf (strValues ((m0, tm) :: mr)).toArray 0)] ∧ m0 :: mr.map (·.1) = missing (q0 :: ns) ∧ mr.length ≤ 3 ∧ ∀ x ∈ (m0, tm) :: mr, x.1 ∈ pcs7) ?_ ?_
    · by_cases hk : q0 ∈ kn3
      · have hmk := missing_kn (r := ns) hk
        rw [hmk] at hmi ⊢
        obtain ⟨⟨m0, tm⟩, mr, rfl⟩ : ∃ m0 mr, r = m0 :: mr := by
          cases r with
          | nil => exact absurd hns hmi
          | cons m0 mr => exact ⟨m0, mr, rfl⟩
        simp only [List.length_cons] at hlen
        (repeat' ((fail_if_success (with_reducible show wpAny _ _ (subscriptTail _ _ _ _) _ _ _)); first | (k_unfold; (try dsimp only)) | (k_end; kc_close) | walk1 | (dsimp only; walk1) | (leave1; (try dsimp only))))
        rename News _ _ _ _ => Na
        refine item0 Na (by k_mem) rfl ?_
        (repeat' ((fail_if_success (with_reducible show wpAny _ _ (compareOp CmpOp.In _ _) _ _ _)); first | (k_unfold; (try dsimp only)) | (k_end; kc_close) | walk1 | (dsimp only; walk1) | (leave1; (try dsimp only))))
        rename News _ _ _ _ => Na
        refine in_known Na (by k_mem) KD hk ?_
        (repeat' ((fail_if_success (with_reducible show wpAny _ _ (subscriptTail _ (PySem.Expr.Slice _ _ _ _) _ _) _ _ _)); first | (k_unfold; (try dsimp only)) | (k_end; kc_close) | walk1 | (dsimp only; walk1) | (leave1; (try dsimp only))))
        rename Fr _ _ _ _ => F20; rename News _ _ _ _ => N20
        refine slice_tl (s := ⟨_, _, _, _, _⟩) (r := (m0, tm) :: mr) F20 N20 (by simp only [List.length_cons]; (first | lia | omega)) (by k_mem) ?_ (by with_unfolding_all rfl) (fun _ => rfl)
        intro D21 h21 F21 N21
        dsimp only
        k_steps
        rename Fr _ _ _ _ => F10; rename News _ _ _ _ => N10
        exact ⟨_, _, _, rfl, F10, news3 N10 (.tail _ (.head _)) (.tail _ (.tail _ (.head _))) (.head _), _, m0, tm, mr, rfl, rfl, by rw [hns]; rfl, by (first | lia | omega), fun x hx => hps x (.tail _ hx)⟩
      · rw [missing_not hk]
        (repeat' ((fail_if_success (with_reducible show wpAny _ _ (subscriptTail _ _ _ _) _ _ _)); first | (k_unfold; (try dsimp only)) | (k_end; kc_close) | walk1 | (dsimp only; walk1) | (leave1; (try dsimp only))))
        rename News _ _ _ _ => Na
        refine item0 Na (by k_mem) rfl ?_
        (repeat' ((fail_if_success (with_reducible show wpAny _ _ (compareOp CmpOp.In _ _) _ _ _)); first | (k_unfold; (try dsimp only)) | (k_end; kc_close) | walk1 | (dsimp only; walk1) | (leave1; (try dsimp only))))
        rename News _ _ _ _ => Na
        refine in_known_not Na (by k_mem) KD hk ?_
        k_steps
        rename Fr _ _ _ _ => F10; rename News _ _ _ _ => N10
        exact ⟨_, _, _, rfl, F10, news3 N10 (.head _) (.tail _ (.head _)) (.tail _ (.tail _ (.tail _ (.tail _ (.tail _ (.head _)))))), D1, q0, tq, r, rfl, rfl, by rw [hns], by simp only [List.length_cons] at hlen; (first | lia | omega), hps⟩
    · rintro v nn h10 tk10 F10 N10 ⟨l, m0, tm, mr, rfl, rfl, hmm, hml3, hmp⟩
      clear N9 F9 KD
      dsimp only
      (repeat' ((fail_if_success (with_reducible show wpAny _ _ (eval (PySem.Expr.IfExp _ _ _ _) _) _ _ _)); first | (k_unfold; (try dsimp only)) | (k_end; kc_close) | walk1 | (dsimp only; walk1) | (leave1; (try dsimp only))))
      rename Fr _ _ _ _ => F12; rename News _ _ _ _ => N12
      obtain ⟨b, hr⟩ : ∃ b, (m0 == Str.ofString "<locals>") = b := ⟨_, rfl⟩
      refine merge_v F12 (fun v nn => nn = [(e7, oe), (t7, ot), (l, W.listOf (strValues ((m0, tm) :: mr)).toArray 0)] ∧ ∃ t, v = .str (if b = true then Str.ofString "local " else Str.ofString "") t) ?_ ?_
      · (repeat' ((fail_if_success (with_reducible show wpAny _ _ (subscriptTail _ _ _ _) _ _ _)); first | (k_unfold; (try dsimp only)) | (k_end; kc_close) | walk1 | (dsimp only; walk1) | (leave1; (try dsimp only))))
        rename Fr _ _ _ _ => F20; rename News _ _ _ _ => N20
        refine slice_hd (s := ⟨_, _, _, _, _⟩) F20 N20 (Nat.le_trans hml3 (by decide)) (by k_mem) ?_ (by with_unfolding_all rfl) (fun _ => rfl)
        intro D21 h21 F21 N21
        dsimp only
        (repeat' ((fail_if_success (with_reducible show wpAny _ _ (compareOp CmpOp.Eq _ _) _ _ _)); first | (k_unfold; (try dsimp only)) | (k_end; kc_close) | walk1 | (dsimp only; walk1) | (leave1; (try dsimp only))))
        rename News _ _ _ _ => Na
        refine eq_one Na (by k_mem) (by k_mem) hr (by simp only [Around.mark_units, Around.deeper_units, arr]; (first | lia | omega)) ?_
        cases b
        all_goals (
          k_steps
          rename Fr _ _ _ _ => F13; rename News _ _ _ _ => N13
          exact ⟨_, _, _, rfl, F13, news3 N13 (by k_mem) (by k_mem) (by k_mem), rfl, _, rfl⟩)
      · rintro v nn h13 tk13 F13 N13 ⟨rfl, tw, rfl⟩
        clear F12 N12
        dsimp only
        have hfin : (refMsg (missing (q0 :: ns)) (Txt.join (Str.ofString ".") (q0 :: ns)) nm == Str.ofString "Can't get " ++ (if b = true then Str.ofString "local " else Str.ofString "") ++ Str.ofString "attribute '" ++ Txt.join (Str.ofString ".") (q0 :: ns) ++ Str.ofString "' on " ++ nm) = true := by
          rw [ref_words hps' (word := if b = true then Str.ofString "local " else Str.ofString "") ?_]
          · exact beq_self_eq_true _
          · rw [← hmm]
            show _ = if some m0 = some (Str.ofString "<locals>") then _ else _
            subst hr
            by_cases e : m0 = Str.ofString "<locals>"
            · rw [if_pos (by rw [e]; exact beq_self_eq_true _), if_pos (by rw [e])]
            · rw [if_neg (fun h => e (by simpa using h)), if_neg (fun h => e (Option.some.inj h))]
        have hwl : (if b = true then Str.ofString "local " else Str.ofString "").length ≤ 50 := by cases b <;> assumption
        generalize (if b = true then Str.ofString "local " else Str.ofString "") = wd at hfin hwl F13 ⊢
        (repeat' ((fail_if_success (with_reducible show wpAny _ _ (compareOp CmpOp.NotEq _ _) _ _ _)); first | (k_unfold; (try dsimp only)) | (k_end; kc_close) | walk1 | (dsimp only; walk1) | (leave1; (try dsimp only))))
        rename Fr _ _ _ _ => F14; rename News _ _ _ _ => N14
        refine ne_nil (ps := (m0, tm) :: mr) ⟨_, N14.get (by k_mem), rfl, _, rfl⟩ ⟨_, N14.get (by k_mem), rfl, _, rfl⟩ hmp (List.cons_ne_nil _ _) (by simp only [Around.mark_units, Around.deeper_units, arr]; (first | lia | omega)) ?_
        (repeat' ((fail_if_success (with_reducible show wpAny _ _ (call (Value.type "str") _) _ _ _)); first | (k_unfold; (try dsimp only)) | (k_end; kc_close) | walk1 | (dsimp only; walk1) | (leave1; (try dsimp only))))
        rename News _ _ _ _ => Na
        refine str_caught Na (by k_mem) (by k_mem) g1 g2 g3 g4 g5 (by simp only [Around.mark_units, Around.deeper_units, arr]; (first | lia | omega)) ?_
        iterate 5
          (repeat' ((fail_if_success (with_reducible show wpAny _ _ (binaryOp Operator.Add _ _) _ _ _)); first | (k_unfold; (try dsimp only)) | (k_end; kc_close) | walk1 | (dsimp only; walk1) | (leave1; (try dsimp only))))
          refine str_add (by (try simp only [Str.length_append]); (first | lia | omega)) fun _ _ => ?_
        (repeat' ((fail_if_success (with_reducible show wpAny _ _ (compareOp CmpOp.Eq _ _) _ _ _)); first | (k_unfold; (try dsimp only)) | (k_end; kc_close) | walk1 | (dsimp only; walk1) | (leave1; (try dsimp only))))
        refine str_eq hfin ?_
        k_steps
        rename Fr _ _ _ _ => F9
        exact DoneT.intro T8 F9 rfl
end Mine
end
section
open PySem PySem.W PySem.Spec PySem.Calls PyProof.Rows
namespace Mine
set_option maxRecDepth 100000
set_option maxHeartbeats 8000000
theorem ctrT_use {w : World} {K : Frag} {f : Value} {vs : List Value} {Post : Heap → Value → Heap → Prop} {d u : Nat} (C : CtrT w K f vs Post d u)
    {g : Heap} {env : Env} {L : Addr} {m : Str → Option Value} {s : Shared} {news : Led} {dp un : Nat} {gd : Option (List Code)}
    {p : Program} {loose : List Str} {mean : ExcName → Option Value} {mg mb : Str → Option Value} {Q E : Value → Shared → Prop}
    (B : Below (arr dp un gd [env]) g [env] s.heap) (F : Fr g L s.heap m) (X : K.In g) (N : News g L s.heap news) (T : Top p loose mean mg mb g) (hf : env.frame = some L)
    (hd : dp + d < recursionLimit) (hu : un + u < cLine)
    (ret : ∀ (v : Value) (h' : Heap) (tk' : Nat), Fr g L h' m → News g L h' news → Post s.heap v h' → Q v { s with heap := h', toks := tk' }) :
    wpAny (model PySem.Challenge.rw_in0200_01.row.prog w) (arr dp un gd [env]) (call f vs) Q E s := by
  have e1 : [env].filterMap (·.frame) = [L] := by simp [hf]
  obtain ⟨oL, es, ep, hL, r⟩ := id F.ns
  refine wpAny_call (C dp un gd [env] g s _ p loose mean mg mb B X T ?_ hd hu fun v h' g' tk' KT sub hp => ?_)
  · rw [e1]
    intro b hb
    rw [List.mem_singleton.mp hb]
    exact ⟨oL, _, _, hL, r.1⟩
  · rw [e1] at KT
    refine ret v h' tk' ?_ (fun q hq => ⟨sub _ _ (KT.other _ _ (N q hq).1 fun e => (N q hq).2.1 (List.mem_singleton.mp e)), (N q hq).2⟩) hp
    refine ⟨?_, fun b o e => sub _ _ (KT.other _ _ (F.keep b o e) fun q => ?_), F.above⟩
    · obtain ⟨sl, hs⟩ := KT.frame L oL hL (.head _)
      exact ⟨_, es, ep, sub _ _ hs, r⟩
    · have h1 := F.above
      rw [List.mem_singleton.mp q] at e
      exact absurd (Heap.lt_size e) (Nat.not_lt_of_le h1)
/-- the entry of the law -/
theorem enterL {w : World} {K : Frag} {f : Addr} {vs : List Value} {name qual : Str} {params : Arguments} {body : List Stmt} {scope : Scope} {dV kV doc pm cdv ct oc : Value} {an od : Option Addr} {osl : Array (Option Value)}
    (binds : List (Str × Value))
    (ho : K.lookup f = some ⟨oc, od, .func (fnOf name qual params body scope dV kV doc pm an cdv ct), osl⟩) (hcd : codeIn K cdv qual = true)
    (hbind : ∀ s : Shared, K.In s.heap → BindsTo s (fnOf name qual params body scope dV kV doc pm an cdv ct) ⟨vs, []⟩ binds) (hloc : ∀ y ∈ binds, scope.names.lookup y.1 = some .local)
    {s : Shared} {p : Program} {loose : List Str} {mean : ExcName → Option Value} {mg mb : Str → Option Value} (X : K.In s.heap) (T : Top p loose mean mg mb s.heap) {Q E : Value → Shared → Prop}
    (h : ∀ (L' : Addr) (h₁ : Heap) (tk : Nat), Fr s.heap L' h₁ (fun y => binds.reverse.lookup y) →
      wpN (mdl w) ((arr (1 + claimMargin) 4 (some []) []).deeper (envOf qual scope L' f cdv)) (execs body (envOf qual scope L' f cdv))
        (fun fl s' => Q (match fl with | .ret v => v | _ => .none) s') (fun _ _ => False) { s with heap := h₁, toks := tk })
    (hcell : ∀ x ∈ scope.names, x.2 ≠ .cell := by decide) (hco : scope.isCoroutine = false := by rfl) (hgen : scope.isGenerator = false := by rfl) (hk : scope.kind = .function := by rfl) :
    wpN (mdl w) callerA (call (.ref f) vs) Q E s := by
  refine wpN_call (codeN_call_def (fd := fnOf name qual params body scope dV kV doc pm an cdv ct) (body := body) (binds := binds) (by decide) (X _ _ ho) rfl T.nolimit (codeRec_of X hcd) rfl (hbind s X) hcell hloc (fun h₁ hns hk₁ => ?_) hco hgen hk)
  exact wpN_mono (h s.heap.objs.size h₁ _ ⟨hns, hk₁, Nat.le_refl _⟩) (fun fl s' q => q) fun _ _ q => q.elim
end Mine
end
section
open PySem PySem.W PySem.Spec PySem.Calls PyProof.Rows
namespace Mine
set_option maxRecDepth 100000
set_option maxHeartbeats 8000000
theorem law_ok (w : World) {na : Addr} {nvs : List Value} {ns : List Int} (hI : IntsAre nvs ns) (hlen : ns.length ≤ 63) {s : Shared} {p : Program} {loose : List Str} {mean : ExcName → Option Value} {mg mb : Str → Option Value}
    (hNl : s.heap.IsList na nvs.toArray) (X' : (kk.heap_1 w.params).In s.heap) (T' : Top p loose mean mg mb s.heap) :
    wpN (mdl w) callerA (call (.ref 702) [.ref na]) (fun v s' => v = .bool true ∧ ∃ h' tk' L m, s' = { s with heap := h', toks := tk' } ∧ Fr s.heap L h' m) (fun _ _ => False) s := by
  have : Fill PySem.Challenge.rw_in0200_01 kk.heap_1 := by k_fill; trivial
  clear this
  refine enterL [(Str.ofString "script", .ref na)] (by k_is) (by k_is) (fun s X => BindsTo.of_eq rfl) (locs rfl) X' T' ?_
  intro L' h₁ tk F'
  have B' : Below (arr (1 + claimMargin) 4 (some []) []) s.heap [] s.heap := ⟨rfl, fun _ _ e => e, trivial⟩
  have N' : News s.heap L' h₁ [] := News.nil
  refine wpN_execs_cons (wpN_of ?_)
  refine For_invV s.heap (by rfl) (by rfl) ?_
  (repeat' ((fail_if_success (with_reducible show wpAny _ _ (pyIter _) _ _ _)); first | (k_unfold; (try dsimp only)) | (k_end; kc_close) | walk1 | (dsimp only; walk1) | (leave1; (try dsimp only))))
  rename Fr _ _ _ _ => F1; rename News _ _ _ _ => N1
  rename IntsAre _ _ => hI1
  refine iter_list (fun _ m news => (∀ y, y ≠ Str.ofString "x" → m y = List.lookup y [(Str.ofString "script", Value.ref na)]) ∧ news = []) rfl rfl rfl F1 (fun q hq => N1 q (by rcases List.mem_cons.mp hq with rfl | hq; exact .head _; exact absurd hq List.not_mem_nil)) ?_ ?_ ?_
  · exact ⟨fun _ _ => rfl, rfl⟩
  · rintro i v m₁ news₁ h tk2 I io hv ⟨hm, rfl⟩ hio F2 N2 hoff
    obtain ⟨tv, rfl⟩ := hI1.int_at i v hv
    obtain ⟨u, rfl⟩ : ∃ u : Option Value, m₁ = fun y => if y = Str.ofString "x" then u else List.lookup y [(Str.ofString "script", Value.ref na)] := ⟨m₁ (Str.ofString "x"), by
      funext y
      by_cases e : y = Str.ofString "x"
      · rw [if_pos e, e]
      · rw [if_neg e, hm y e]⟩
    clear hm F1 N1
    (repeat' ((fail_if_success (with_reducible show wpAny _ _ (call (Value.ref 695) _) _ _ _)); first | (k_unfold; (try dsimp only)) | (k_end; kc_close) | walk1 | (dsimp only; walk1) | (leave1; (try dsimp only))))
    rename Fr _ _ _ _ => F3; rename News _ _ _ _ => N3
    refine ctrT_use (refusal w _ tv) ⟨rfl, fun b o e => F3.keep b o e, (Below.push B' F3).frames⟩ F3 X' N3 T' rfl ?c1 ?c2 ?_
    (case c1 => decide)
    (case c2 => decide)
    rintro v h4 tk4 F4 N4 rfl
    (repeat' ((fail_if_success (with_reducible show wpN _ _ _ _ _ _)); first | (k_unfold; (try dsimp only)) | (k_end; kc_close) | walk1 | (dsimp only; walk1) | (leave1; (try dsimp only))))
    refine TEnd.next [] F4 N4 (fun _ hq => absurd hq List.not_mem_nil) ⟨fun y hy => ?_, rfl⟩
    simp only [if_neg hy]
  · rintro m₁ news₁ h tk2 ⟨hm, rfl⟩ F2 N2
    obtain ⟨u, rfl⟩ : ∃ u : Option Value, m₁ = fun y => if y = Str.ofString "x" then u else List.lookup y [(Str.ofString "script", Value.ref na)] := ⟨m₁ (Str.ofString "x"), by
      funext y
      by_cases e : y = Str.ofString "x"
      · rw [if_pos e, e]
      · rw [if_neg e, hm y e]⟩
    clear hm F1 N1 N2 hI1
    have N2 : News s.heap L' h [] := News.nil
    dsimp only
    refine wpN_execs_cons ?_
    refine wpN_Return ?_
    refine wpN_Call1 (P := fun h => (kk.heap_1 w.params).In h) (.ref 688) rfl (keeps_K (by k_is)) ?_
    (repeat' ((fail_if_success (with_reducible show wpN _ _ _ _ _ _)); first | (k_unfold; (try dsimp only)) | (k_end; kc_close) | walk1 | (dsimp only; walk1) | (leave1; (try dsimp only))))
    rename Fr _ _ _ _ => F3; rename News _ _ _ _ => N3
    rename IntsAre _ _ => hI3
    refine' ctr_useN (law_desc w _ _ _ hI3 (by simp) (by simp; (first | lia | omega))) B' F3 X' N3 T' rfl rfl (fun _ hq => absurd hq List.not_mem_nil) ?c0 ?c1 ?c2 ?_
    (case c0 => exact ⟨_, N3.get (.head _), rfl, _, rfl⟩)
    (case c1 => decide)
    (case c2 => decide)
    rintro v h4 tk4 F4 - - - hv
    exact ⟨hv, h4, _, _, _, rfl, F4⟩
end Mine
end
section
open PySem PySem.W PySem.Spec PySem.Calls PyProof.Rows
namespace Mine
set_option maxRecDepth 100000
set_option maxHeartbeats 8000000
noncomputable abbrev kAs : List Addr := [2,3,15,17,18,20,21,22,24,25,27,28,29,31,32,34,35,36,43,44,46,47,49,50,51,53,54,55,56,57,58,61,63,64,66,67,68,70,71,73,74,75,77,78,80,81,82,89,90,92,93,95,96,97,99,100,102,103,104,106,107,108,109,110,113,115,116,118,119,120,122,123,125,126,127,134,135,136,137,147,149,150,152,153,154,155,156,157,158,159,162,169,170,171,174,181,182,183,186,193,194,196,197,199,200,201,203,204,206,207,208,210,211,213,214,215,217,218,220,221,222,223,225,226,228,229,230,232,233,235,236,237,239,240,242,243,244,246,247,249,250,251,253,254,256,257,258,260,261,263,264,265,267,268,270,271,272,274,275,277,278,279,281,282,284,285,286,288,289,291,292,293,295,296,298,299,300,302,303,305,306,307,309,310,312,313,314,315,317,318,320,321,322,323,325,326,328,329,330,331,333,334,336,337,338,339,341,342,344,345,346,348,349,351,352,353,355,356,358,359,360,361,363,364,366,367,368,369,371,372,374,375,376,378,379,381,382,383,385,386,388,389,390,392,393,395,396,397,399,400,402,403,404,406,407,409,410,411,412,413,416,423,424,426,427,429,430,431,433,434,436,437,438,440,441,443,444,445,447,448,450,451,452,454,455,457,458,459,461,462,464,465,466,467,469,470,472,473,474,475,477,478,480,481,482,483,485,486,488,489,490,491,493,494,496,497,498,499,501,502,504,505,506,508,509,511,512,513,515,516,518,519,520,522,523,525,526,527,529,530,532,533,534,536,537,539,540,541,543,544,546,547,548,550,551,553,554,555,557,558,560,561,562,564,565,567,568,569,571,572,574,575,576,578,579,581,582,583,584,586,587,589,590,591,592,594,595,597,598,599,600,602,603,605,606,607,608,610,611,613,614,615,616,618,619,621,622,623,625,626,628,629,630,632,633,635,636,637,639,640,642,643,644,646,647,649,650,651,653,654,656,657,658,659,660,663,665,666,668,669,670,672,673,675,676,677,680,681,682,684,685,687,688,689,691,692,694,695,696,698,699,701,702]
theorem kAs_ok : ∀ P, kAs = (kk.heap_1 P).map (·.1) := fun _ => by kernel_rfl
theorem walk_all (q : Program) (loose : List Str) (XP : (Str → Option Value) → Heap → Prop) (d : DefRec) (kwd : List (Str × PySem.Expr)) (hdn : d.name = Str.ofString "law") :
    WalkS q loose XP (kHook kk.heap_1 kAs kAs_ok).says PySem.Challenge.rw_in0200_01.row.toRowW d kwd := by
  have : Fill PySem.Challenge.rw_in0200_01 kk.heap_1 := by k_fill; trivial
  clear this
  intro w s₀ s₁ mg mb G Y fa o pm cd doc dV kV ho hd hcd hD hmg hg args vals as hpre hlay hrd hwl hlo
  rw [hdn] at hmg
  have KX := kIn_of Y
  refine Ground.open G ?_
  intro T B D TE TW
  wrow_args hpre hlay hrd hwl hlo
  have e1 := mg_of (v := .ref 702) KX (Top.g T) (n := Str.ofString "law") (by k_is)
  have e2 := e1.symm.trans hmg
  have e3 : 702 = fa := Value.ref.inj (Option.some.inj e2)
  subst e3
  rename Heap.IsList _ _ _ => hL
  rename IntsAre _ _ => hI
  refine wpN_mono (law_ok w hI (by (first | lia | omega)) hL KX T) ?_ (fun _ _ x => x.elim)
  rintro v s' ⟨rfl, h', tk', L, m, rfl, F⟩
  refine GoodW.toG (goodW_bool F hg ?_ ?_)
  · intro c
    rfl
  · wrow_post
end Mine
end
section
open PySem PySem.W PySem.Spec PySem.Calls PyProof.Rows
namespace Mine
set_option maxRecDepth 100000
theorem head.tw9197122456581196581 : True := trivial
theorem head.tw11925700103697007601 : True := trivial
theorem head.tw14586503196746008701 : True := trivial
theorem head.tw466721876749952763 : True := trivial
theorem head.tw8912104118211102971 : True := trivial
theorem head.tw10116942457455264815 : True := trivial
theorem head.tw1728724042893426364 : True := trivial
theorem head.tw18433677622606106133 : True := trivial
theorem head.tw7161073391023584161 : True := trivial
theorem head.tw13508044439285423174 : True := trivial
theorem head.tw3821945547825155762 : True := trivial
theorem head.tw4839655697589452165 : True := trivial
theorem head.tw10988817232074504935 : True := trivial
theorem head.tw11582096051123008839 : True := trivial
theorem head.tw11305582741114486441 : True := trivial
theorem head.tw12287978374625458572 : True := trivial
theorem head.tw6388477656530123435 : True := trivial
theorem head.tw3860651933079915558 : True := trivial
theorem head.tw6489421142724028100 : True := trivial
theorem head.tw14882813523228863612 : True := trivial
theorem head.tw12604462930493870256 : True := trivial
theorem head.tw5501060405047882677 : True := trivial
theorem head.tw9107825763807709430 : True := trivial
theorem head.tw10936905620487946977 : True := trivial
theorem head.tw6211381574409162282 : True := trivial
theorem head.tw9062998866958442273 : True := trivial
theorem head.tw15827502805916655846 : True := trivial
theorem head.tw16572314662081343053 : True := trivial
theorem head.tw12611893724949602041 : True := trivial
theorem head.tw1718890006036334650 : True := trivial
theorem head.tw2437478716016495240 : True := trivial
theorem head.tw13246386896891170512 : True := trivial
theorem head.tw6085824867444503733 : True := trivial
theorem head.tw14744981736328886265 : True := trivial
theorem head.tw4405531762615560363 : True := trivial
theorem head.tw17371765431496345816 : True := trivial
theorem head.tw17212568112599259466 : True := trivial
theorem head.tw5019597260055213698 : True := trivial
theorem head.tw45052839361067614 : True := trivial
theorem head.tw13504307299585405616 : True := trivial
theorem head.tw13942192884097748152 : True := trivial
theorem head.tw14946772226789246504 : True := trivial
theorem head.tw8476099583838051002 : True := trivial
theorem head.tw17194126546080390198 : True := trivial
theorem head.tw2728595385866086531 : True := trivial
theorem head.tw11290360913936777911 : True := trivial
theorem head.tw15895551434495452948 : True := trivial
theorem head.tw4764554697811233 : True := trivial
theorem head.tw13337238644230332656 : True := trivial
theorem head.tw6053349399257934933 : True := trivial
theorem head.tw9388430590476628193 : True := trivial
theorem head.tw17297054508065495485 : True := trivial
theorem head.tw17377423518514600169 : True := trivial
theorem head.tw779419810087314491 : True := trivial
theorem head.tw18264441199730398920 : True := trivial
theorem head.tw10258521583956687137 : True := trivial
theorem head.tw18125128294737035143 : True := trivial
theorem head.tw15967466079928408925 : True := trivial
theorem head.tw16800043278716471037 : True := trivial
theorem head.tw10079960370226730655 : True := trivial
theorem head.tw2973143901146584636 : True := trivial
theorem head.tw5776309275727910279 : True := trivial
theorem head.tw17015032458148788900 : True := trivial
theorem head.tw1608297297296620843 : True := trivial
theorem head.tw12478146576626367362 : True := trivial
theorem head.tw820421773197932041 : True := trivial
theorem head.tw12764128322984676335 : True := trivial
theorem head.tw2355103038987944067 : True := trivial
theorem head.tw15840312062823119879 : True := trivial
theorem head.tw13585267454733459922 : True := trivial
theorem head.tw3980653432952411973 : True := trivial
theorem head.tw4964814941381164201 : True := trivial
theorem head.tw12428389735305899900 : True := trivial
theorem head.tw3944913497352057107 : True := trivial
theorem head.tw10431609616501453582 : True := trivial
theorem head.tw13412022041919118725 : True := trivial
theorem head.tw6099028997845504075 : True := trivial
theorem head.tw17894702793023417833 : True := trivial
theorem head.tw18364922244981856966 : True := trivial
theorem head.tw5869485362099743711 : True := trivial
theorem head.tw8812732774380208333 : True := trivial
theorem head.tw8535708456716222715 : True := trivial
theorem head.tw6237802210402583469 : True := trivial
theorem head.tw7526775705450560304 : True := trivial
theorem head.tw4528443807372415038 : True := trivial
theorem head.tw9089795715530709647 : True := trivial
theorem head.tw6369041477666114370 : True := trivial
theorem head.tw6053997905714604814 : True := trivial
theorem head.tw14843749296085226474 : True := trivial
theorem head.tw6161856959107265637 : True := trivial
theorem head.tw2417591901434828539 : True := trivial
theorem head.tw11923155195566972133 : True := trivial
theorem head.tw11427066125472700054 : True := trivial
theorem head.tw8550467674348477657 : True := trivial
theorem head.tw6930615606355531631 : True := trivial
theorem head.tw9881340216297992761 : True := trivial
theorem head.tw17836260108008149386 : True := trivial
theorem head.tw16576625349610184965 : True := trivial
theorem head.tw15898109809663626304 : True := trivial
theorem head.tw4318500180640689126 : True := trivial
theorem head.tw8874674299285249911 : True := trivial
theorem head.tw10746725682022337571 : True := trivial
theorem head.tw11081218982966106116 : True := trivial
theorem head.tw16817119741492734445 : True := trivial
theorem head.tw8758324158161630591 : True := trivial
theorem head.tw14195316510222423288 : True := trivial
theorem head.tw4967071435590096275 : True := trivial
theorem head.tw3304075619188804072 : True := trivial
theorem head.tw69809265629811306 : True := trivial
theorem head.tw9767149119325585590 : True := trivial
theorem head.tw6891450509433485068 : True := trivial
theorem head.tw11998209505049934977 : True := trivial
theorem head.tw6402496994288996404 : True := trivial
theorem head.tw5792407227767346561 : True := trivial
theorem head.tw8101760021730824546 : True := trivial
theorem head.tw12398312691204496596 : True := trivial
theorem head.tw12773685731770592110 : True := trivial
theorem head.tw6088685845774392931 : True := trivial
theorem head.tw11105056867450500199 : True := trivial
theorem head.tw11434997419882176723 : True := trivial
theorem head.tw10472834687351259785 : True := trivial
theorem head.tw10110233660360586483 : True := trivial
theorem head.tw2681166955253090778 : True := trivial
theorem head.tw13743032657059413451 : True := trivial
theorem head.tw15779500811904541264 : True := trivial
theorem head.tw1503407388533364548 : True := trivial
theorem head.tw17453365369857097546 : True := trivial
theorem head.tw4857777746444614323 : True := trivial
theorem head.tw15894371620910866019 : True := trivial
theorem head.tw8586521899292070991 : True := trivial
theorem head.tw4239589573987675453 : True := trivial
theorem head.tw15539854500240908086 : True := trivial
theorem head.tw15510365090734361527 : True := trivial
theorem head.tw10371985647062452541 : True := trivial
theorem head.tw15895748673760503845 : True := trivial
theorem head.tw17039324001796647390 : True := trivial
theorem head.tw17346037399652195860 : True := trivial
theorem head.tw12310735299239354703 : True := trivial
theorem head.tw8733578408476508925 : True := trivial
theorem head.tw6847273489543275152 : True := trivial
theorem head.tw2428695696106030784 : True := trivial
theorem head.tw10736139440505347576 : True := trivial
theorem head.tw2413573451304230806 : True := trivial
theorem head.tw16966009324859112401 : True := trivial
theorem head.tw13227620805987009915 : True := trivial
theorem head.tw807299193193998342 : True := trivial
theorem head.tw1992862871153497056 : True := trivial
theorem head.tw8881269060482585022 : True := trivial
theorem head.tw1319983325249436295 : True := trivial
theorem head.tw1082313596108445148 : True := trivial
theorem head.tw8534208459206503383 : True := trivial
theorem head.tw14112051064653734678 : True := trivial
theorem head.tw16031315777459398524 : True := trivial
theorem head.tw48543519692965452 : True := trivial
theorem head.tw4554283584077286953 : True := trivial
theorem head.tw2035680199648653684 : True := trivial
theorem head.tw10270352894671993868 : True := trivial
theorem head.tw6880043348581005364 : True := trivial
theorem head.tw5737951250597237232 : True := trivial
theorem head.tw4277651752456152607 : True := trivial
theorem head.tw10317212456122042642 : True := trivial
theorem head.tw3501597964444990463 : True := trivial
theorem head.tw14090159008775844135 : True := trivial
theorem head.tw1939405473400901271 : True := trivial
theorem head.tw17646911460466567920 : True := trivial
theorem head.tw4972248218790579157 : True := trivial
theorem head.tw10668533816033670360 : True := trivial
theorem head.tw1970811146720035896 : True := trivial
theorem head.tw12362083183470981646 : True := trivial
theorem head.tw7148437315225170067 : True := trivial
theorem head.tw3164961170700492040 : True := trivial
theorem head.tw17539234302018041193 : True := trivial
theorem head.tw6871339299614917876 : True := trivial
theorem head.tw3690969761935527329 : True := trivial
theorem head.tw5723944856813171866 : True := trivial
theorem head.tw15785421084128741142 : True := trivial
theorem head.tw12024539317367501503 : True := trivial
theorem head.tw12207028300977255130 : True := trivial
theorem head.tw6153569298028143949 : True := trivial
theorem head.tw15564447279633807951 : True := trivial
theorem head.tw15256841493749336786 : True := trivial
theorem head.tw2946737518818760889 : True := trivial
theorem head.tw3986194592780655508 : True := trivial
theorem head.tw7656372460463219624 : True := trivial
theorem head.tw13917482298092908234 : True := trivial
theorem head.tw1315816938146588887 : True := trivial
theorem head.tw15052771764104931649 : True := trivial
theorem head.tw18081138779251354973 : True := trivial
theorem head.tw8476951943066225111 : True := trivial
theorem head.tw13002585709282622103 : True := trivial
theorem head.tw1919001801439425371 : True := trivial
theorem head.tw14768688571040804171 : True := trivial
theorem head.tw7627683417492964911 : True := trivial
theorem head.tw4307260679431091991 : True := trivial
theorem head.tw8169693465737517768 : True := trivial
theorem head.tw6870361546347238192 : True := trivial
theorem head.tw17339705970751849611 : True := trivial
theorem head.tw8182079617134344778 : True := trivial
theorem head.tw7253898381062576733 : True := trivial
theorem head.tw3160712208675142370 : True := trivial
theorem head.tw12460202669355646752 : True := trivial
theorem head.tw6668890000431947556 : True := trivial
theorem head.tw16128420640991077102 : True := trivial
theorem head.tw14796412885826930917 : True := trivial
theorem head.tw6327039764776113722 : True := trivial
theorem head.tw6858743491597560450 : True := trivial
theorem head.tw7802898811600756450 : True := trivial
theorem head.tw16828514060538661750 : True := trivial
theorem head.tw6751290297309308749 : True := trivial
theorem head.tw7616930195647119758 : True := trivial
theorem head.tw15001418939266856263 : True := trivial
theorem head.tw8451290768687142514 : True := trivial
theorem head.tw15091486752826498866 : True := trivial
theorem head.tw11594179093838686107 : True := trivial
theorem head.tw3651205649096709438 : True := trivial
theorem head.tw8815353094830122866 : True := trivial
theorem head.tw6226413525154113608 : True := trivial
theorem head.tw13750642191701924398 : True := trivial
theorem head.tw17129914584562691343 : True := trivial
theorem head.tw13137911371727378231 : True := trivial
theorem head.tw9407594320385231609 : True := trivial
theorem head.tw11485113708198979986 : True := trivial
theorem head.tw9827913525700040407 : True := trivial
theorem head.tw16962450398199861240 : True := trivial
theorem head.tw3368474557548986910 : True := trivial
theorem head.tw14628233357713752721 : True := trivial
theorem head.tw12244833863542804788 : True := trivial
theorem head.tw9658139154387788515 : True := trivial
theorem head.tw5617373736292572815 : True := trivial
theorem head.tw18177665153149118353 : True := trivial
theorem head.tw11308087075614649832 : True := trivial
theorem head.tw9978949632667528635 : True := trivial
theorem head.tw17522360388414511382 : True := trivial
theorem head.tw17854890406432584798 : True := trivial
theorem head.tw3790771472595898956 : True := trivial
theorem head.tw4473611206160876864 : True := trivial
theorem head.tw14740928361383774428 : True := trivial
theorem head.tw6846597200999610202 : True := trivial
theorem head.tw4193606323709125858 : True := trivial
theorem head.tw6973584914630602586 : True := trivial
theorem head.tw7748693106545578708 : True := trivial
theorem head.tw14139502460874162764 : True := trivial
theorem head.tw6857060684267632606 : True := trivial
theorem head.tw13276723143375012678 : True := trivial
theorem head.tw13600378441667735501 : True := trivial
theorem head.tw17674571679781333832 : True := trivial
theorem head.tw16952181060025214987 : True := trivial
theorem head.tw5874639182527098836 : True := trivial
theorem head.tw13249071542605338262 : True := trivial
theorem head.tw5599997604879368025 : True := trivial
theorem head.tw8264559056461403633 : True := trivial
theorem head.tw1929634836878124385 : True := trivial
theorem head.tw14983349147647662914 : True := trivial
theorem head.tw7994106446794305319 : True := trivial
theorem head.tw16647155751929229394 : True := trivial
theorem head.tw14877080517539528568 : True := trivial
theorem head.tw14028522991509751376 : True := trivial
theorem head.tw1172538174109094731 : True := trivial
theorem head.tw2506711637615833298 : True := trivial
theorem head.tw17844492200522320778 : True := trivial
theorem head.tw8035625575855466936 : True := trivial
theorem head.tw14676189674455941282 : True := trivial
theorem head.tw15647610678857825673 : True := trivial
theorem head.tw2545145822199252752 : True := trivial
theorem head.tw17002534310236347988 : True := trivial
theorem head.tw4991397462208424806 : True := trivial
theorem head.tw12475708393154427166 : True := trivial
theorem head.tw2661039320868540944 : True := trivial
theorem head.tw10510622979536455646 : True := trivial
theorem head.tw1401139394160673004 : True := trivial
theorem head.tw527386997569798941 : True := trivial
theorem head.tw11715283913529211631 : True := trivial
theorem head.tw1660877005871194693 : True := trivial
theorem head.tw6202090305015876224 : True := trivial
theorem head.tw7181452741857391679 : True := trivial
theorem head.tw9646481798937456297 : True := trivial
theorem head.tw3122906425038022637 : True := trivial
theorem head.tw5240702290290941181 : True := trivial
theorem head.tw17093656651364094606 : True := trivial
theorem head.tw13295774097974887486 : True := trivial
theorem head.tw174166394780034911 : True := trivial
theorem head.tw9707193307599440610 : True := trivial
theorem head.tw16014373381606645092 : True := trivial
theorem head.tw10467814448475477596 : True := trivial
theorem head.tw5751227541892866231 : True := trivial
theorem head.tw12630350610049390935 : True := trivial
theorem head.tw13537664574400122534 : True := trivial
theorem head.tw9553506758532729402 : True := trivial
theorem head.tw5901594920499545818 : True := trivial
theorem head.tw13478637309914159250 : True := trivial
theorem head.tw18060483585939721653 : True := trivial
theorem head.tw9984397402777080727 : True := trivial
theorem head.tw4160124254940468481 : True := trivial
theorem head.tw4975070653579243887 : True := trivial
theorem head.tw17113217626458354986 : True := trivial
theorem head.tw5927865893512547691 : True := trivial
theorem head.tw16582591585412914238 : True := trivial
theorem head.tw6763335052953634553 : True := trivial
theorem head.tw15838623164411332158 : True := trivial
theorem head.tw17972497016974392416 : True := trivial
theorem head.tw2201313380682377074 : True := trivial
theorem head.tw2241628862621589225 : True := trivial
theorem head.tw14788773977795034992 : True := trivial
theorem head.tw17782148633632673465 : True := trivial
theorem head.tw18384547517478447814 : True := trivial
theorem head.tw497287684792784471 : True := trivial
theorem head.tw16291991722392533869 : True := trivial
theorem head.tw14969872817325187116 : True := trivial
theorem head.tw10812213935944405949 : True := trivial
theorem head.tw14608020496243840504 : True := trivial
theorem head.tw6588589085864783938 : True := trivial
theorem head.tw1618804561499322139 : True := trivial
theorem head.tw1272635626206103303 : True := trivial
theorem head.tw11603432971120843656 : True := trivial
theorem head.tw532055438628499158 : True := trivial
theorem head.tw12682429181067543257 : True := trivial
theorem head.tw10573961123116132518 : True := trivial
theorem head.tw3659646283403374670 : True := trivial
theorem head.tw11005904730967762025 : True := trivial
theorem head.tw16474958459275807246 : True := trivial
theorem head.tw8569104457590258164 : True := trivial
theorem head.tw3186774066764743411 : True := trivial
theorem head.tw6307057079134178644 : True := trivial
theorem head.tw9082462177598256812 : True := trivial
theorem head.tw2588942769649879372 : True := trivial
theorem head.tw3453547403478019728 : True := trivial
theorem head.tw1211024037004892549 : True := trivial
theorem head.tw10519217271611395807 : True := trivial
theorem head.tw14746898714274692784 : True := trivial
theorem head.tw14234965402570480558 : True := trivial
theorem head.tw10105583180162433683 : True := trivial
theorem head.tw17993767162375566018 : True := trivial
theorem head.tw3127049524044150859 : True := trivial
theorem head.tw17190349231170142043 : True := trivial
theorem head.tw1425459126675767727 : True := trivial
theorem head.tw7450023128482652576 : True := trivial
theorem head.tw3368030927266983236 : True := trivial
theorem head.tw940147379719373870 : True := trivial
theorem head.tw300626226527484142 : True := trivial
theorem head.tw12212823987433534256 : True := trivial
theorem head.tw7195933706287572923 : True := trivial
theorem head.tw262713603470380999 : True := trivial
theorem head.tw6507506987150044280 : True := trivial
theorem head.tw12903917746401883607 : True := trivial
theorem head.tw976808484645153763 : True := trivial
theorem head.tw9820158181544301314 : True := trivial
theorem head.tw5697773043789114877 : True := trivial
theorem head.tw2237326684586592538 : True := trivial
theorem head.tw12330954535739239725 : True := trivial
theorem head.tw17411354535832351560 : True := trivial
theorem head.tw11857307637417881527 : True := trivial
theorem head.tw12037728316022314418 : True := trivial
theorem head.tw8838475285390394957 : True := trivial
theorem head.tw8570663504987218829 : True := trivial
theorem head.tw16272097951300814418 : True := trivial
theorem head.tw9030979908501067730 : True := trivial
theorem head.tw7940748693946456147 : True := trivial
theorem head.tw17577399041416155939 : True := trivial
theorem head.tw4746297304354101679 : True := trivial
theorem head.tw3688799982635324794 : True := trivial
theorem head.tw18277060748420158845 : True := trivial
theorem head.tw2907111362388958804 : True := trivial
theorem head.tw13637325136056909300 : True := trivial
theorem head.tw1897847011134641823 : True := trivial
theorem head.tw17188972718952451159 : True := trivial
theorem head.tw7906546307943345882 : True := trivial
theorem head.tw315434073420411817 : True := trivial
theorem head.tw1687793838685487538 : True := trivial
theorem head.tw2760189568479381244 : True := trivial
theorem head.tw12987040726578829979 : True := trivial
theorem head.tw5508695066786827253 : True := trivial
theorem head.tw13896987355042952010 : True := trivial
theorem head.tw5865467396996320769 : True := trivial
theorem head.tw14205479233844494046 : True := trivial
theorem head.tw15399148058966210843 : True := trivial
theorem head.tw6100774026682323163 : True := trivial
theorem head.tw15520248196984853422 : True := trivial
theorem head.tw5392078452651409485 : True := trivial
theorem head.tw851385035628625539 : True := trivial
theorem head.tw1643771367246577777 : True := trivial
theorem head.tw14527164170590304321 : True := trivial
theorem head.tw6079359036626576793 : True := trivial
theorem head.tw742351954350328859 : True := trivial
theorem head.tw17725469503822016867 : True := trivial
theorem head.tw7062146859851562108 : True := trivial
theorem head.tw12695399030622205104 : True := trivial
theorem head.tw11893822550167381502 : True := trivial
theorem head.tw17784925447008408576 : True := trivial
theorem head.tw17173436117698932495 : True := trivial
theorem head.tw10706776884845955466 : True := trivial
theorem head.tw6604829842348296887 : True := trivial
theorem head.tw7046380642943354848 : True := trivial
theorem head.tw10840385229135970747 : True := trivial
theorem head.tw10366927770000222440 : True := trivial
theorem head.tw17658000642845759554 : True := trivial
theorem head.tw1748456618969930982 : True := trivial
theorem head.tw3404819636646143723 : True := trivial
theorem head.tw7624658959004494543 : True := trivial
theorem head.tw10265929125382437317 : True := trivial
theorem head.tw7658410731251134818 : True := trivial
theorem head.tw15064752311394979489 : True := trivial
theorem head.tw5506250874072839755 : True := trivial
theorem head.tw5906241406904858968 : True := trivial
theorem head.tw1995287165650055613 : True := trivial
theorem head.tw10730805705081004914 : True := trivial
theorem head.tw17784522201281872271 : True := trivial
theorem head.tw1852205218256702202 : True := trivial
theorem head.tw10533634037010066435 : True := trivial
theorem head.tw18051680202136193954 : True := trivial
theorem head.tw16894561301568121468 : True := trivial
theorem head.tw930087139818521243 : True := trivial
theorem head.tw7833285031277912329 : True := trivial
theorem head.tw10005452208157733855 : True := trivial
theorem head.tw10066793327743970655 : True := trivial
theorem head.tw16640130746408290383 : True := trivial
theorem head.tw2781723093108153277 : True := trivial
theorem head.tw14241001667801471300 : True := trivial
theorem head.tw3615648651819825313 : True := trivial
theorem head.tw1620002657737552111 : True := trivial
theorem head.tw8097174177036852075 : True := trivial
theorem head.tw18165431152234640623 : True := trivial
theorem head.tw7421959067914383049 : True := trivial
theorem head.tw4433315090154635215 : True := trivial
theorem head.tw4965378191221513410 : True := trivial
theorem head.tw8518231567759158271 : True := trivial
theorem head.tw6207834228037699737 : True := trivial
theorem head.tw16922147877168347812 : True := trivial
theorem head.tw10898857373019930491 : True := trivial
theorem head.tw7805308653706644653 : True := trivial
theorem head.tw4090538686069576298 : True := trivial
theorem head.tw5725584637647431893 : True := trivial
theorem head.tw17821319399108415887 : True := trivial
theorem head.tw16847831306532103052 : True := trivial
theorem head.tw15253147559959296200 : True := trivial
theorem head.tw90575161674971029 : True := trivial
theorem head.tw792300799171563205 : True := trivial
theorem head.tw14759185912286986992 : True := trivial
theorem head.tw11426403942048686318 : True := trivial
theorem head.tw12371566548271132015 : True := trivial
theorem head.tw11296743742662292762 : True := trivial
theorem head.tw11338825007792423415 : True := trivial
theorem head.tw9318794584737855082 : True := trivial
theorem head.tw14667470093908496907 : True := trivial
theorem head.tw3405375401864073989 : True := trivial
theorem head.tw11569442021236766091 : True := trivial
theorem head.tw12601080634535202701 : True := trivial
theorem head.tw14699756766385990792 : True := trivial
theorem head.tw6260244149815935644 : True := trivial
theorem head.tw8773370040425892893 : True := trivial
theorem head.tw3556061257289618393 : True := trivial
theorem head.tw5080737588221150853 : True := trivial
theorem head.tw5987550445186205895 : True := trivial
theorem head.tw12870424476946447624 : True := trivial
theorem head.tw13653928888864918839 : True := trivial
theorem head.tw4693820183103290663 : True := trivial
theorem head.tw5906749814970224870 : True := trivial
theorem head.tw16470739840699324481 : True := trivial
theorem head.tw5182153607120983317 : True := trivial
theorem head.tw12147184966966947637 : True := trivial
theorem head.tw14956133685725647455 : True := trivial
theorem head.tw7604411431414283762 : True := trivial
theorem head.tw2625984366357065906 : True := trivial
theorem head.tw9823536610671039419 : True := trivial
theorem head.tw1764952784847918493 : True := trivial
theorem head.tw9495540839478616804 : True := trivial
theorem head.tw8497721794823489343 : True := trivial
theorem head.tw3547240966391284428 : True := trivial
theorem head.tw15582730294447300881 : True := trivial
theorem head.tw573967197379146972 : True := trivial
theorem head.tw9142320679590124636 : True := trivial
theorem head.tw12043669396524033845 : True := trivial
theorem head.tw4691952243595246448 : True := trivial
theorem head.tw9777900189565919194 : True := trivial
theorem head.tw15978427065635505109 : True := trivial
theorem head.tw15832300201269216667 : True := trivial
theorem head.tw4483413254912295219 : True := trivial
theorem head.tw17348764703882912863 : True := trivial
theorem head.tw9515422150858430662 : True := trivial
theorem head.tw2825341998796452840 : True := trivial
theorem head.tw5346772772824661884 : True := trivial
theorem head.tw2976249973925969801 : True := trivial
theorem head.tw17287069475806534740 : True := trivial
theorem head.tw9715989912806740752 : True := trivial
theorem head.tw7358512011923840914 : True := trivial
theorem head.tw9601497413559074677 : True := trivial
theorem head.tw8541356943393881859 : True := trivial
theorem head.tw13198292447841614426 : True := trivial
theorem head.tw15271745096719814637 : True := trivial
theorem head.tw290710125855613696 : True := trivial
theorem head.tw3548660455928884018 : True := trivial
theorem head.tw2007852463679175192 : True := trivial
theorem head.tw11544532188706048022 : True := trivial
theorem head.tw15841401105113185080 : True := trivial
theorem head.tw10018764681926925449 : True := trivial
theorem head.tw883913982201973750 : True := trivial
theorem head.tw16894197260953374720 : True := trivial
theorem head.tw6110071263904590700 : True := trivial
theorem head.tw9464831228461672588 : True := trivial
theorem head.tw4708111749353345164 : True := trivial
theorem head.tw6562009823351158392 : True := trivial
theorem head.tw6379358179555706155 : True := trivial
theorem head.tw9074772780463953568 : True := trivial
theorem head.tw7287109101882759415 : True := trivial
theorem head.tw6526830475164118762 : True := trivial
theorem head.tw16845296645482713644 : True := trivial
theorem head.tw3223962053107752630 : True := trivial
theorem head.tw5187041380464763778 : True := trivial
theorem head.tw9702098958229961203 : True := trivial
theorem head.tw8715499118904818895 : True := trivial
theorem head.tw999222835498014148 : True := trivial
theorem head.tw2764016085172604524 : True := trivial
theorem head.tw8216834362191484069 : True := trivial
theorem head.tw7272792461964422541 : True := trivial
theorem head.tw1056085985882870562 : True := trivial
theorem head.tw11255790879490906821 : True := trivial
theorem head.tw13294958713779813728 : True := trivial
theorem head.tw14943480678444902952 : True := trivial
theorem head.tw3604701254548876123 : True := trivial
theorem head.tw7270002223443293236 : True := trivial
theorem head.tw12324890628731678277 : True := trivial
theorem head.tw12822298378996975857 : True := trivial
theorem head.tw17486074103640542121 : True := trivial
theorem head.tw9214367901419015226 : True := trivial
theorem head.tw16714887947964762639 : True := trivial
theorem head.tw2581250870941146908 : True := trivial
theorem head.tw5915552362696249034 : True := trivial
theorem head.tw3254172550106833301 : True := trivial
theorem head.tw4063747431996464497 : True := trivial
theorem head.tw14417885227837004991 : True := trivial
theorem head.tw8546719886708726068 : True := trivial
theorem head.tw5038994553942263901 : True := trivial
theorem head.tw2554682012703037696 : True := trivial
theorem head.tw2249667046024356820 : True := trivial
theorem head.tw3500380475922496097 : True := trivial
theorem head.tw7704315382344345624 : True := trivial
theorem head.tw14112020806712329415 : True := trivial
theorem head.tw13687475568465949530 : True := trivial
theorem head.tw10021064610941686981 : True := trivial
theorem head.tw7313386461004707312 : True := trivial
theorem head.tw17464823870196871000 : True := trivial
theorem head.tw5515381820778694223 : True := trivial
theorem head.tw7277520189549225825 : True := trivial
theorem head.tw7179252675378151715 : True := trivial
theorem head.tw15501141472565082077 : True := trivial
theorem head.tw17014734716931888790 : True := trivial
theorem head.tw18095809974233413182 : True := trivial
theorem head.tw15330342782969278459 : True := trivial
theorem head.tw1291722185910714397 : True := trivial
theorem head.tw10261356005730403935 : True := trivial
theorem head.tw6272251169252508156 : True := trivial
theorem head.tw12741294794224977040 : True := trivial
theorem head.tw16545597347906280737 : True := trivial
theorem head.tw17789423225533864492 : True := trivial
theorem head.tw1894759731626308040 : True := trivial
theorem head.tw1971652810694446911 : True := trivial
theorem head.tw15676425527210111115 : True := trivial
theorem head.tw7596824489109172434 : True := trivial
theorem head.tw4673441458371412756 : True := trivial
theorem head.tw16997897962222511 : True := trivial
theorem head.tw18419137052163196841 : True := trivial
theorem head.tw2350586252961548244 : True := trivial
theorem head.tw15035418422258542911 : True := trivial
theorem head.tw1489404036187247834 : True := trivial
theorem head.tw16172288393029767808 : True := trivial
theorem head.tw12417293695627231756 : True := trivial
theorem head.tw7575806435727305068 : True := trivial
theorem head.tw15735840784391694233 : True := trivial
theorem head.tw16106133796442146334 : True := trivial
theorem head.tw12763952150808568291 : True := trivial
theorem head.tw6846866878297920324 : True := trivial
theorem head.tw10389290468125465742 : True := trivial
theorem head.tw11052631288978436188 : True := trivial
theorem head.tw3696042808614700290 : True := trivial
theorem head.tw9701577420580846637 : True := trivial
theorem head.tw693309671712327132 : True := trivial
theorem head.tw3880867118405822719 : True := trivial
theorem head.tw9353324838224930552 : True := trivial
theorem head.tw9717200733822644074 : True := trivial
theorem head.tw5141578139466067413 : True := trivial
theorem head.tw17142359554024780413 : True := trivial
theorem head.tw5764021196749891206 : True := trivial
theorem head.tw15666658371737129944 : True := trivial
theorem head.tw6426539377367359892 : True := trivial
theorem head.tw12740806245664736207 : True := trivial
theorem head.tw15898970277018273793 : True := trivial
theorem head.tw2525317073905713282 : True := trivial
theorem head.tw13357441389134331599 : True := trivial
theorem head.tw13605870324054321959 : True := trivial
theorem head.tw3212073173673764245 : True := trivial
theorem head.tw1714602735852981970 : True := trivial
theorem head.tw17525636777796739105 : True := trivial
theorem head.tw12364624919760631829 : True := trivial
theorem head.tw5353729903917744248 : True := trivial
theorem head.tw10805485071935523482 : True := trivial
theorem head.tw12095829319087573521 : True := trivial
theorem head.tw9449176361245260279 : True := trivial
theorem head.tw1914692607248247194 : True := trivial
theorem head.tw6684681932595197013 : True := trivial
theorem head.tw5651425540991249520 : True := trivial
theorem head.tw10356212845559719233 : True := trivial
theorem head.tw15127644999133008818 : True := trivial
theorem head.tw7020426759955784428 : True := trivial
theorem head.tw3364305129493290686 : True := trivial
theorem head.tw11770459041652445329 : True := trivial
theorem head.tw467416434755642258 : True := trivial
theorem head.tw3581614266968435656 : True := trivial
theorem head.tw1134157569726261602 : True := trivial
theorem head.tw3928599903575798129 : True := trivial
theorem head.tw14412733801367601576 : True := trivial
theorem head.tw4053978428183960486 : True := trivial
theorem head.tw2591067827882107080 : True := trivial
theorem head.tw5438144065070405397 : True := trivial
theorem head.tw4885112425497105109 : True := trivial
theorem head.tw3715144110773694964 : True := trivial
theorem head.tw604627371996746742 : True := trivial
theorem head.tw2096541523181747872 : True := trivial
theorem head.tw3089916443595474862 : True := trivial
theorem head.tw2066564036433440168 : True := trivial
theorem head.tw13801937863458859944 : True := trivial
theorem head.tw907359911958329709 : True := trivial
theorem head.tw6298033893332097587 : True := trivial
theorem head.tw2393937325987436248 : True := trivial
theorem head.tw17889261914703972767 : True := trivial
theorem head.tw380116879960591498 : True := trivial
theorem head.tw3973953319845086491 : True := trivial
theorem head.tw11289835788462762251 : True := trivial
theorem head.tw14909605222495392915 : True := trivial
theorem head.tw6836605351468522007 : True := trivial
theorem head.tw12875325457547866274 : True := trivial
theorem head.tw15305915472762889579 : True := trivial
theorem head.tw14531177953140590962 : True := trivial
theorem head.tw12775505166333009402 : True := trivial
theorem head.tw4576125674228380541 : True := trivial
theorem head.tw18254194996027185994 : True := trivial
theorem head.tw17698105195316432488 : True := trivial
theorem head.tw2994366008111725845 : True := trivial
theorem head.tw7404141018258913797 : True := trivial
theorem head.tw1398043889541792783 : True := trivial
theorem head.tw7599496313472250701 : True := trivial
theorem head.tw5015311536963163689 : True := trivial
theorem head.tw16579250180923337425 : True := trivial
theorem head.tw14699528089545365996 : True := trivial
theorem head.tw16078238667976319046 : True := trivial
theorem head.tw15039987702171664376 : True := trivial
theorem head.tw12182850187970735909 : True := trivial
theorem head.tw15924019268735266097 : True := trivial
theorem head.tw16446913148795680959 : True := trivial
theorem head.tw14615432700455777464 : True := trivial
theorem head.tw10400636543074173776 : True := trivial
theorem head.tw140066278072042493 : True := trivial
theorem head.tw5140934472235413692 : True := trivial
theorem head.tw7523532297153676066 : True := trivial
theorem head.tw16111715859725283846 : True := trivial
theorem head.tw17854896373637125580 : True := trivial
theorem head.tw5870146547769353613 : True := trivial
theorem head.tw13381877923881390905 : True := trivial
theorem head.tw9746458257258439470 : True := trivial
theorem head.tw16974685034882416825 : True := trivial
theorem head.tw18260194641540637818 : True := trivial
theorem head.tw16166440364842034014 : True := trivial
theorem head.tw6889739017440866108 : True := trivial
theorem head.tw2694075680205673411 : True := trivial
theorem head.tw14512941343882779238 : True := trivial
theorem head.tw17541063381433097499 : True := trivial
theorem head.tw14956371261235936329 : True := trivial
theorem head.tw18176413224385145225 : True := trivial
theorem head.tw8159583801465064534 : True := trivial
theorem head.tw17007033763367706731 : True := trivial
theorem head.tw12339793173418651155 : True := trivial
theorem head.tw1499353310998574721 : True := trivial
theorem head.tw11819297519747316193 : True := trivial
theorem head.tw5129616035191883695 : True := trivial
theorem head.tw15181326774706428367 : True := trivial
theorem head.tw7928285938522686346 : True := trivial
theorem head.tw4976181008148175253 : True := trivial
theorem head.tw7960053054240918295 : True := trivial
theorem head.tw4017301010375394790 : True := trivial
theorem head.tw10010264046613662565 : True := trivial
theorem head.tw4834694072379752904 : True := trivial
theorem head.tw4419558321834357505 : True := trivial
theorem head.tw17008234436448823602 : True := trivial
theorem head.tw14349913743752837093 : True := trivial
theorem head.tw14061139507663348314 : True := trivial
theorem head.tw1061700454162486011 : True := trivial
theorem head.tw3496171461512900480 : True := trivial
theorem head.tw2879759524354350568 : True := trivial
theorem head.tw1472379273497163797 : True := trivial
theorem head.tw18014224886719972007 : True := trivial
theorem head.tw5271886537152271918 : True := trivial
theorem head.tw15468718075485040107 : True := trivial
theorem head.tw9610264321537646536 : True := trivial
theorem head.tw4945251732147069371 : True := trivial
theorem head.tw1224924573807776437 : True := trivial
theorem head.tw5013180600929471838 : True := trivial
theorem head.tw4235852798576303577 : True := trivial
theorem head.tw5407718363533321033 : True := trivial
theorem head.tw1642545813376747948 : True := trivial
theorem head.tw5629256929840616583 : True := trivial
theorem head.tw13689084217373910675 : True := trivial
theorem head.tw15112835437128306455 : True := trivial
theorem head.tw9325123708862168440 : True := trivial
theorem head.tw13295082483830516422 : True := trivial
theorem head.tw10504981510240967646 : True := trivial
theorem head.tw10128820837102578890 : True := trivial
theorem head.tw17109638464079675080 : True := trivial
theorem head.tw7512725033676591148 : True := trivial
theorem head.tw1062042127530464391 : True := trivial
theorem head.tw16415787539773345739 : True := trivial
theorem head.tw709382114072422158 : True := trivial
theorem head.tw18331532914195504034 : True := trivial
theorem head.tw5401097623525119610 : True := trivial
theorem head.tw1858285994304674589 : True := trivial
theorem head.tw10457615780465708087 : True := trivial
theorem head.tw7743085818281968155 : True := trivial
theorem head.tw1216361941278037836 : True := trivial
theorem head.tw6684978435548883818 : True := trivial
theorem head.tw12201952087667049370 : True := trivial
theorem head.tw18023777556119793883 : True := trivial
theorem head.tw1214346256449528893 : True := trivial
theorem head.tw15845715064670954444 : True := trivial
theorem head.tw15638870477510070732 : True := trivial
theorem head.tw17826015225549371706 : True := trivial
theorem head.tw9280153536138602973 : True := trivial
theorem head.tw3749026756887285471 : True := trivial
theorem head.tw13397106695672350980 : True := trivial
theorem head.tw10062970787820224252 : True := trivial
theorem head.tw7789450098604059249 : True := trivial
theorem head.tw14158537116620707164 : True := trivial
theorem head.tw10510183946089719056 : True := trivial
theorem head.tw8402328212356670530 : True := trivial
theorem head.tw11628534518673281344 : True := trivial
theorem head.tw14869660450943532240 : True := trivial
theorem head.tw10242447542790323104 : True := trivial
theorem head.tw3290047583113660281 : True := trivial
theorem head.tw12841863872788715202 : True := trivial
theorem head.tw14631306762972528136 : True := trivial
theorem head.tw5380383263664398348 : True := trivial
theorem head.tw9851633324533329740 : True := trivial
theorem head.tw14344768424176206936 : True := trivial
theorem head.tw14149492867418468938 : True := trivial
theorem head.tw1976755195193171425 : True := trivial
theorem head.tw6518409114910312394 : True := trivial
theorem head.tw7961726388155042601 : True := trivial
theorem head.tw7096138990903361605 : True := trivial
theorem head.tw9368406320212774489 : True := trivial
theorem head.tw6587087628758450585 : True := trivial
theorem head.tw8796753266530204203 : True := trivial
theorem head.tw7392004362435642628 : True := trivial
theorem head.tw4154363929692500862 : True := trivial
theorem head.tw7417405269818204032 : True := trivial
theorem head.tw6212921109956642855 : True := trivial
theorem head.tw8299393411229908732 : True := trivial
theorem head.tw14597329475937083939 : True := trivial
theorem head.tw11862927689305589065 : True := trivial
theorem head.tw12344544660321961925 : True := trivial
theorem head.tw17017319662998615 : True := trivial
theorem head.tw13999681649124312864 : True := trivial
theorem head.tw12472887615940459650 : True := trivial
theorem head.tw16874305072444578374 : True := trivial
theorem head.tw8610661140672950678 : True := trivial
theorem head.tw6600165084710513979 : True := trivial
theorem head.tw13954853420313727417 : True := trivial
theorem head.tw16659920880120507502 : True := trivial
theorem head.tw12949380547846470161 : True := trivial
theorem head.tw4090201507572337743 : True := trivial
theorem head.tw780477332936465449 : True := trivial
theorem head.tw16441004959143088680 : True := trivial
theorem head.tw3244951577380529755 : True := trivial
theorem head.tw8895791426145780158 : True := trivial
theorem head.tw9631839687265896505 : True := trivial
theorem head.tw9273458967167524031 : True := trivial
theorem head.tw2599346099135257874 : True := trivial
theorem head.tw3512634313551410195 : True := trivial
theorem head.tw1963959055141433311 : True := trivial
theorem head.tw8671685427711848851 : True := trivial
theorem head.tw13086575352542018947 : True := trivial
theorem head.tw3616486834168423931 : True := trivial
theorem head.tw17156091980717111821 : True := trivial
theorem head.tw4407807290196491609 : True := trivial
theorem head.tw7876399200375917224 : True := trivial
theorem head.tw13488047542759136002 : True := trivial
theorem head.tw15604011560834605598 : True := trivial
theorem head.tw9101448428047585222 : True := trivial
theorem head.tw17958272820484234708 : True := trivial
theorem head.tw14982685227137828758 : True := trivial
theorem head.tw10521553517811329670 : True := trivial
theorem head.tw15037083628117588352 : True := trivial
theorem head.tw16172356507618199906 : True := trivial
theorem head.tw1389810093214676884 : True := trivial
theorem head.tw18215824643853355119 : True := trivial
theorem head.tw66618190712790079 : True := trivial
theorem head.tw2529948359932261575 : True := trivial
theorem head.tw16385634705727604063 : True := trivial
theorem head.tw13213268828098156179 : True := trivial
theorem head.tw12328230846540189838 : True := trivial
theorem head.tw10009871244118513402 : True := trivial
theorem head.tw1276956409769668328 : True := trivial
theorem head.tw17905491414393134947 : True := trivial
theorem head.tw15506723302920939300 : True := trivial
theorem head.tw12795389718870424448 : True := trivial
theorem head.tw8187629637223713605 : True := trivial
theorem head.tw7090939061502383884 : True := trivial
theorem head.tw5111174896325423537 : True := trivial
theorem head.tw1917425121527220963 : True := trivial
theorem head.tw17444863063712431705 : True := trivial
theorem head.tw9133290819911140118 : True := trivial
theorem head.tw9997931420998421608 : True := trivial
theorem head.tw9987851973559822609 : True := trivial
theorem head.tw2797894973233656403 : True := trivial
theorem head.tw14427283581363961175 : True := trivial
theorem head.tw18100283295969611417 : True := trivial
theorem head.tw6836608696283027097 : True := trivial
theorem head.tw9374387883903384206 : True := trivial
theorem head.tw17768545326873755256 : True := trivial
theorem head.tw15204471325056678010 : True := trivial
theorem head.tw5996384718915585738 : True := trivial
theorem head.tw16894393574925625578 : True := trivial
theorem head.tw11180365069992382532 : True := trivial
theorem head.tw6121141971511671821 : True := trivial
theorem head.tw16871623187472473471 : True := trivial
theorem head.tw12032222614953749359 : True := trivial
theorem head.tw15257777307251433950 : True := trivial
theorem head.tw1463646239528298992 : True := trivial
theorem head.tw14306030232151103276 : True := trivial
theorem head.tw9743709737119245314 : True := trivial
theorem head.tw12856577281151766611 : True := trivial
theorem head.tw8626486368039343599 : True := trivial
theorem head.tw15796087645652482245 : True := trivial
theorem head.tw4607607821588926596 : True := trivial
theorem head.tw17975491588444890076 : True := trivial
theorem head.tw8627200689577751383 : True := trivial
theorem head.tw8172283286065499403 : True := trivial
theorem head.tw9213911765573242809 : True := trivial
theorem head.tw3547030090768783262 : True := trivial
theorem head.tw11704837465938651953 : True := trivial
theorem head.tw5797013207949663412 : True := trivial
theorem head.tw5612995960945425718 : True := trivial
theorem head.tw14565420633037775528 : True := trivial
theorem head.tw11714945338242495837 : True := trivial
theorem head.tw15253846138512369154 : True := trivial
theorem head.tw12851702773856589430 : True := trivial
theorem head.tw9325057278558614444 : True := trivial
theorem head.tw1673358830478937286 : True := trivial
theorem head.tw17988201657351507238 : True := trivial
theorem head.tw14086173767186703872 : True := trivial
theorem head.tw15410735652082386980 : True := trivial
theorem head.tw2203363585012173787 : True := trivial
theorem head.tw14083850284487924763 : True := trivial
theorem head.tw14679116673082234219 : True := trivial
theorem head.tw8382746154173761051 : True := trivial
theorem head.tw11613311375368785083 : True := trivial
theorem head.tw17700853532424174462 : True := trivial
theorem head.tw16072502192527678464 : True := trivial
theorem head.tw14637134836413734856 : True := trivial
theorem head.tw14127983276867164173 : True := trivial
theorem head.tw14999265807660949796 : True := trivial
theorem head.tw13664066127859960707 : True := trivial
theorem head.tw9196398404247428943 : True := trivial
theorem head.tw2518057956044344595 : True := trivial
theorem head.tw9171846695823722306 : True := trivial
theorem head.tw14643959010103036307 : True := trivial
theorem head.tw7688317290187622652 : True := trivial
theorem head.tw14842460003800876886 : True := trivial
theorem head.tw3340124654517525194 : True := trivial
theorem head.tw1919890906376249811 : True := trivial
theorem head.tw3062044705579621278 : True := trivial
theorem head.tw16782820856776367440 : True := trivial
theorem head.tw7661765248129044261 : True := trivial
theorem head.tw9716329373054682134 : True := trivial
theorem head.tw3514389088698752745 : True := trivial
theorem head.tw7659462814917621580 : True := trivial
theorem head.tw2232109503444375002 : True := trivial
theorem head.tw14429822130985059091 : True := trivial
theorem head.tw13353151263460963528 : True := trivial
theorem head.tw17050696954950088759 : True := trivial
theorem head.tw15095179193122606544 : True := trivial
theorem head.tw7992697801930647134 : True := trivial
theorem head.tw12668424612319814730 : True := trivial
theorem head.tw1966224132733831507 : True := trivial
theorem head.tw10748227973586771634 : True := trivial
theorem head.tw11097941207591946120 : True := trivial
theorem head.tw16652688526520581961 : True := trivial
theorem head.tw739537129135343663 : True := trivial
theorem head.tw9380374249521086144 : True := trivial
theorem head.tw15149402430504572791 : True := trivial
theorem head.tw8408249889716310983 : True := trivial
theorem head.tw4389056084150536348 : True := trivial
theorem head.tw15782939476341012554 : True := trivial
theorem head.tw7256407767356113836 : True := trivial
theorem head.tw14393718171448925343 : True := trivial
theorem head.tw15263674166054382079 : True := trivial
theorem head.tw9909477652473797434 : True := trivial
theorem head.tw13932022402069264104 : True := trivial
theorem head.tw1858156416291392539 : True := trivial
theorem head.tw10872037306656784433 : True := trivial
theorem head.tw16917608666046251313 : True := trivial
theorem head.tw10948677003083999065 : True := trivial
theorem head.tw1909714482019496454 : True := trivial
theorem head.tw7758381527925395934 : True := trivial
theorem head.tw13510609219080548989 : True := trivial
theorem head.tw3171451927456968151 : True := trivial
theorem head.tw5319049981483164881 : True := trivial
theorem head.tw13955511503576765797 : True := trivial
theorem head.tw578259024812056932 : True := trivial
theorem head.tw11124748197601291601 : True := trivial
theorem head.tw10875119458065257276 : True := trivial
theorem head.tw14432977821161478157 : True := trivial
theorem head.tw16604199759994364997 : True := trivial
theorem head.tw3321875119742208626 : True := trivial
theorem head.tw14385403278947933607 : True := trivial
theorem head.tw12120646240234225243 : True := trivial
theorem head.tw708152393587867187 : True := trivial
theorem head.tw14492117785962260688 : True := trivial
theorem head.tw16226220715811633075 : True := trivial
theorem head.tw5129340602016612638 : True := trivial
theorem head.tw5363715690607933 : True := trivial
theorem head.tw1522823579158628613 : True := trivial
theorem head.tw3270352941656771521 : True := trivial
theorem head.tw5061997093462229610 : True := trivial
theorem head.tw1626232751844553403 : True := trivial
theorem head.tw1519320592345488741 : True := trivial
theorem head.tw3103639331685909893 : True := trivial
theorem head.tw5274623360512300857 : True := trivial
theorem head.tw8409189969818401543 : True := trivial
theorem head.tw8988664977312594650 : True := trivial
theorem head.tw1318689175770300589 : True := trivial
theorem head.tw7119846925741900413 : True := trivial
theorem head.tw5593727005144783397 : True := trivial
theorem head.tw11724780754615379514 : True := trivial
theorem head.tw545888858418189544 : True := trivial
theorem head.tw17608190574486352970 : True := trivial
theorem head.tw14078167904914714981 : True := trivial
theorem head.tw8414573866900348196 : True := trivial
theorem head.tw4932745802714450591 : True := trivial
theorem head.tw6522505103286579628 : True := trivial
theorem head.tw7044984988248179734 : True := trivial
theorem head.tw1906429620130506887 : True := trivial
theorem head.tw15656768269340197940 : True := trivial
theorem head.tw15250023729529759990 : True := trivial
theorem head.tw17304152732226823993 : True := trivial
theorem head.tw1588943658860677225 : True := trivial
theorem head.tw12564640927703296245 : True := trivial
theorem head.tw9625377726130185387 : True := trivial
theorem head.tw2400818531096893172 : True := trivial
theorem head.tw17262968490309938674 : True := trivial
theorem head.tw2260579728952749127 : True := trivial
theorem head.tw7732209734871044160 : True := trivial
theorem head.tw6174258528820157971 : True := trivial
theorem head.tw10786079294511566085 : True := trivial
theorem head.tw14646466228836335164 : True := trivial
theorem head.tw14631705268626504575 : True := trivial
theorem head.tw6737735255597943219 : True := trivial
theorem head.tw7498250532897285284 : True := trivial
theorem head.tw5973763720392745831 : True := trivial
theorem head.tw5638995163158488052 : True := trivial
theorem head.tw14818060551437736151 : True := trivial
theorem head.tw10059252607514160932 : True := trivial
theorem head.tw1438866918597655640 : True := trivial
theorem head.tw12214093580764582487 : True := trivial
theorem head.tw4023466491090337370 : True := trivial
theorem head.tw11060938730435951684 : True := trivial
theorem head.tw15326552575505426906 : True := trivial
theorem head.tw10865165270600546614 : True := trivial
theorem head.tw6640010369347007910 : True := trivial
theorem head.tw6265338273532641288 : True := trivial
theorem head.tw13199516396595161752 : True := trivial
theorem head.tw3264716943610762504 : True := trivial
theorem head.tw8063128913528701915 : True := trivial
theorem head.tw3863384581746538084 : True := trivial
theorem head.tw5104563664521345299 : True := trivial
theorem head.tw807142644699662319 : True := trivial
theorem head.tw6968674436765558698 : True := trivial
theorem head.tw17243387458012846398 : True := trivial
theorem head.tw6240353410654795137 : True := trivial
theorem head.tw1212124681294104184 : True := trivial
theorem head.tw705760531005267695 : True := trivial
theorem head.tw11636873012791513418 : True := trivial
theorem head.tw14090284624843534012 : True := trivial
set_option Elab.async true in
set_option maxHeartbeats 8000000 in
/-- the head, for the walk above -/
theorem head : PySem.Challenge.rw_in0200_01.Holds := by
  w_on
  o_law
  o_head (kHook kk.heap_1 kAs kAs_ok)
  case hw => w_witness2
  exact walk_all _ _ _ _ _ rfl
end Mine
end
set_option maxRecDepth 100000 in
theorem PySem.Challenge.cw_in0200_01_holds : PySem.Challenge.rw_in0200_01.Holds := by
  exact Mine.head

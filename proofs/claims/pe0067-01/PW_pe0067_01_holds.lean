import PyProof.Rows.All
import Wide.All
import OpenK.AllK
import Wide.FinOn
import PySem.Challenge.RW_pe0067_01
set_option Elab.async false
set_option compiler.extract_closed false

section
open PySem PySem.W PySem.Calls PyProof.Rows
open Sem (wp)
set_option maxRecDepth 100000
set_option linter.unusedVariables false
namespace Mine
/-- the caller of the claim lies in the stack -/
def HC (Γ : Ctx) : Prop := (Γ.code.isCaller || Γ.below.any (·.1.isCaller)) = true
def wpH {α : Type} (M : Model) (A : Around) (t : Sem α) (Q : α → Shared → Prop) (E : Value → Shared → Prop) (s : Shared) : Prop :=
  ∀ Γ p, Γ.In A → HC Γ → wp M Γ t (fun a _ s' => Q a s') (fun e _ s' => E e s') p s
def codeH (M : Model) (A : Around) (c : Code) (R : Result → Shared → Prop) (s : Shared) : Prop :=
  ∀ Γ p, Γ.code = c → Γ.Below A → Γ.below.any (·.1.isCaller) = true → wpCode M Γ R p s
section
variable {α β : Type} {M : Model} {A : Around} {E : Value → Shared → Prop} {s : Shared}
theorem wpH_any {t : Sem α} {Q : α → Shared → Prop} (h : wpAny M A t Q E s) : wpH M A t Q E s := fun Γ p hΓ _ => h Γ p hΓ
theorem codeH_any {c : Code} {R : Result → Shared → Prop} (h : codeAny M A c R s) : codeH M A c R s := fun Γ p hc hΓ _ => h Γ p hc hΓ
theorem wpH_pure {a : α} {Q : α → Shared → Prop} (h : Q a s) : wpH M A (pure a) Q E s := fun _ _ _ _ => h
theorem wpH_mono {t : Sem α} {Q Q' : α → Shared → Prop} {E' : Value → Shared → Prop} (h : wpH M A t Q E s) (hQ : ∀ a s, Q a s → Q' a s) (hE : ∀ e s, E e s → E' e s) : wpH M A t Q' E' s :=
  fun Γ p hΓ hc => Sem.wp_mono M Γ t (fun a _ s => hQ a s) (fun e _ s => hE e s) p s (h Γ p hΓ hc)
theorem wpH_bind {m : Sem α} {f : α → Sem β} {Q : β → Shared → Prop} (h : wpH M A m (fun a s' => wpH M A (f a) Q E s') E s) : wpH M A (m >>= f) Q E s := fun Γ p hΓ hc => by
  rw [Sem.wp_bind']
  exact Sem.wp_mono M Γ m (fun a p' s' h' => h' Γ p' hΓ hc) (fun _ _ _ h' => h') p s (h Γ p hΓ hc)
theorem wpH_onRaise {m : Sem α} {k : Value → Sem Unit} {Q : α → Shared → Prop} (h : wpH M A m Q (fun e s' => wpH M A (k e) (fun _ s'' => E e s'') E s') s) : wpH M A (m.onRaise k) Q E s := fun Γ p hΓ hc => by
  rw [Sem.wp_onRaise]
  exact Sem.wp_mono M Γ m (fun _ _ _ h' => h') (fun e p' s' h' => h' Γ p' hΓ hc) p s (h Γ p hΓ hc)
theorem wpH_tryCatch {m : Sem α} {k : Value → Sem α} {Q : α → Shared → Prop} (h : wpH M A m Q (fun e s' => wpH M A (k e) Q E s') s) : wpH M A (tryCatch m k) Q E s := fun Γ p hΓ hc => by
  rw [Sem.wp_tryCatch']
  exact Sem.wp_mono M Γ m (fun _ _ _ h' => h') (fun e p' s' h' => h' Γ p' hΓ hc) p s (h Γ p hΓ hc)
theorem wpH_attempt {m : Sem α} {Q : Except Value α → Shared → Prop} (h : wpH M A m (fun a => Q (.ok a)) (fun e => Q (.error e)) s) : wpH M A m.attempt Q E s := fun Γ p hΓ hc => by rw [Sem.wp_attempt]; exact h Γ p hΓ hc
theorem wpH_holding {vs : List Value} {m : Sem α} {Q : α → Shared → Prop} (h : wpH M A m Q E s) : wpH M A (holding vs m) Q E s := fun Γ p hΓ hc => by rw [Sem.wp_holding]; exact h Γ p hΓ hc
theorem wpH_of_eq {t t' : Sem α} {Q : α → Shared → Prop} (e : t = t') (h : wpH M A t' Q E s) : wpH M A t Q E s := e ▸ h
theorem codeH_mono {c : Code} {R R' : Result → Shared → Prop} (h : codeH M A c R s) (hR : ∀ r s, R r s → R' r s) : codeH M A c R' s := fun Γ p hc hΓ hb => wpCode_mono hR (h Γ p hc hΓ hb)
theorem HC.enter {Γ : Ctx} (h : HC Γ) (c : Code) (hd : Option Value) (p : Pos) : (Γ.enter c hd p).below.any (·.1.isCaller) = true := h
theorem wpH_run {c : Code} {h : Option Value} {Q : Flow → Shared → Prop} (hc : codeH M (A.mark h) c (fun r s' => match r with | .ok f => Q f s' | .error e => E e s') s) (hnb : h ≠ some byPass) : wpH M A (run c h) Q E s :=
  fun Γ p hΓ hC => by rw [Sem.wp_run]; exact hc _ p rfl (hΓ.enter c h p hnb) (hC.enter c h p)
theorem wpH_runValue {c : Code} {Q : Value → Shared → Prop} (hc : codeH M A c (fun r s' => match r with | .ok (.ret v) => Q v s' | .ok _ => False | .error e => E e s') s) : wpH M A (runValue c) Q E s :=
  fun Γ p hΓ hC => by rw [Sem.wp_runValue]; exact hc _ p rfl (hΓ.enter c none p (by intro x; cases x)) (hC.enter c none p)
theorem wpH_call {f : Value} {pos : List Value} {kw : List (Str × Value)} {Q : Value → Shared → Prop} (hc : codeH M A (.call f ⟨pos, kw⟩) (fun r s' => match r with | .ok (.ret v) => Q v s' | .ok _ => False | .error e => E e s') s) : wpH M A (call f pos kw) Q E s := wpH_runValue hc
theorem HC.of_below {Γ : Ctx} (h : Γ.below.any (·.1.isCaller) = true) : HC Γ := by unfold HC; rw [h, Bool.or_true]
theorem codeH_of_tree {c : Code} {R : Result → Shared → Prop}
    (h : wpH M (A.under c) (M.den c) (fun fin s' => match fin with | .done f => R (.ok f) s' | .again c' => c'.quiet = true ∧ codeH M A c' R s') (fun e s' => R (.error e) s') s) : codeH M A c R s := fun Γ p hc hΓ hb => by
  rw [wpCode_iff_wp, hc]
  refine Sem.wp_mono M Γ _ (fun fin p' s' h' => ?_) (fun _ _ _ h' => h') p s (h Γ p (hc ▸ hΓ.in) (.of_below hb))
  cases fin with
  | done f => exact h'
  | again c' => exact ⟨h'.1, h'.2 (Γ.goto c') p' rfl (hΓ.goto c') hb⟩
theorem codeH_loop {c : Code} {R : Result → Shared → Prop} (hq : c.quiet = true) (I : Nat → Shared → Prop)
    (turn : ∀ n s, I n s → wpH M (A.under c) (M.den c) (fun fin s' => match fin with
        | .done f => R (.ok f) s'
        | .again c' => (c' = c ∧ ∃ m, m < n ∧ I m s') ∨ (c'.quiet = true ∧ codeH M A c' R s')) (fun e s' => R (.error e) s') s)
    (n : Nat) (h : I n s) : codeH M A c R s := by
  induction n using Nat.strongRecOn generalizing s with
  | ind n ih =>
    refine codeH_of_tree (wpH_mono (turn n s h) (fun fin s' hf => ?_) fun _ _ h' => h')
    cases fin with
    | done f => exact hf
    | again c' =>
      rcases hf with ⟨rfl, m, hm, hI⟩ | hf
      · exact ⟨hq, ih m hm hI⟩
      · exact hf
theorem wpH_mark {own : List String} {e : Value} {Q : Unit → Shared → Prop} (h : Q () s) : wpH M A (markTheRefusal own e) Q E s := fun Γ p hΓ hC => by
  unfold markTheRefusal
  rw [Sem.wp_bind']
  show wp M Γ (if pythonCodeMadeTheCall own (((Γ.code, p) :: Γ.below).map (·.1)) = true then _ else _) _ _ p s
  have : pythonCodeMadeTheCall own (((Γ.code, p) :: Γ.below).map (·.1)) = false := by
    unfold pythonCodeMadeTheCall
    have e : ((((Γ.code, p) :: Γ.below).map (·.1)).any Code.isCaller) = true := by
      rw [List.any_map]
      show ((Γ.code, p) :: Γ.below).any (fun x => x.1.isCaller) = true
      rw [List.any_cons]; exact hC
    show ((!((((Γ.code, p) :: Γ.below).map (·.1)).any Code.isCaller) && _) && _) = false
    rw [e]; rfl
  rw [if_neg (by rw [this]; exact Bool.false_ne_true)]
  exact h
end
end Mine
end

section
open PySem PySem.W PySem.Calls PyProof.Rows
open Sem (wp)
set_option maxRecDepth 100000
set_option linter.unusedVariables false
namespace Mine
/-- from the judgement with the caller to the run of the claim's own thread -/
theorem ends_H {prog : Program} {w : World} {t : Sem PySem.Fin} {s : Shared} {R : Result → Shared → Prop} (hreg : s.asleep)
    (h : wpH (model prog w) callerA t (fun fin s' => ∃ f, fin = .done f ∧ (R (.ok f) s' ∧ leftWithCleanup s'.gens = false)) (fun e s' => R (.error e) s' ∧ leftWithCleanup s'.gens = false) s) :
    ∃ n r s' s'', runN (denote table) prog w n s ⟨t, .builtin "claim.caller" {}, default, []⟩ = .halted (outcomeOf r) s' ∧
      schedN (denote table) prog w n (.single s ⟨t, .builtin "claim.caller" {}, default, []⟩) = .halted (outcomeOf r) s' ∧ s'.forget = s''.forget ∧ R r s'' := by
  have key : wp (model prog w) ⟨.builtin "claim.caller" {}, none, none, [], none⟩ t (Sem.finPost (model prog w) ⟨.builtin "claim.caller" {}, none, none, [], none⟩ fun r s' => R r s' ∧ leftWithCleanup s'.gens = false)
      (fun e _ s' => R (.error e) s' ∧ leftWithCleanup s'.gens = false) default s := by
    refine Sem.wp_mono _ _ t (fun fin p' s' h' => ?_) (fun _ _ _ h' => h') default s (h ⟨.builtin "claim.caller" {}, none, none, [], none⟩ default caller_in rfl)
    obtain ⟨f, rfl, hf⟩ := h'
    exact hf
  obtain ⟨n, r, s₁, s₂, hs, hn, hfo, hR⟩ := wp_halts_full (M := model prog w) (R := R) hreg key
  exact ⟨n, r, s₂, s₁, hn, hs, hfo, hR⟩
theorem callFrom_H {c : ClaimW} {tree : List Value → Sem PySem.Fin} {w : World} {s : Shared} {free : Addr → Prop} {gens : Prop} {kept : Heap → Prop} (hz : s.asleep) (hgens : s.gens = #[])
    (hspec : ∀ args, c.pre args = true → WData.layableAll args = true → ∀ ord : List DictEntry → List DictEntry, (∀ l, (ord l).Perm l) →
      ∃ vs s₁, layAllW c.records (classAt s.heap) w.params ord args s = some (vs, s₁) ∧
        wpH (model c.prog w) callerA (tree vs) (fun fin s' => ∃ f, fin = .done f ∧ (c.Ends s args vs s₁ (.ok f) s' ∧ s'.os = s.os ∧ AllBare s'.gens ∧ kept s'.heap))
          (fun e s' => c.Ends s args vs s₁ (.error e) s' ∧ s'.os = s.os ∧ AllBare s'.gens ∧ kept s'.heap) s₁) :
    c.CallFrom (fun vs => ⟨tree vs, .builtin "claim.caller" {}, default, []⟩) w free gens kept s := by
  intro args hpre hlay ord hord
  obtain ⟨vs, s₁, hlaid, hcode⟩ := hspec args hpre hlay ord hord
  have hal := layAllW_rest _ _ _ hlaid
  obtain ⟨k, r, s', s'', hrun, hsched, hfo, hcase, hos, hkp⟩ := ends_H (prog := c.prog) (w := w) (t := tree vs) (s := s₁) (R := fun r s' => c.Ends s args vs s₁ r s' ∧ s'.os = s.os ∧ kept s'.heap)
    (Shared.asleep_of_life hal.2.2.2 hz)
    (wpH_mono hcode (fun fin s' h => let ⟨f, e, h1, h2, h3, h4⟩ := h; ⟨f, e, ⟨h1, h2, h4⟩, leftWithCleanup_false_of_bare h3⟩) (fun e s' h => ⟨⟨h.1, h.2.1, h.2.2.2⟩, leftWithCleanup_false_of_bare h.2.2.1⟩))
  obtain ⟨eh, _, _, eo, _⟩ := Shared.forget_eq hfo
  have hcase := hcase.congr eh
  have hkp : kept s'.heap := eh ▸ hkp
  rw [← eo] at hos
  have hlife : s'.heap.life = s.heap.life := (runN_life _ _ _ hrun).trans hal.2.2.2
  refine ⟨vs, s₁, hlaid, k, _, s', hsched, ?_, (fun _ i x hx => by rw [hgens] at hx; simp at hx), hkp, by rw [hlife], Shared.rest_eq hos⟩
  rcases hcase with ⟨v, rfl, d1, d2, d3, d4, d5⟩ | ⟨e, ob, cls, rfl, d1, d2, d3, d4, d5⟩
  · exact .inl ⟨v, rfl, d1, d2, d3, fun b o y _ => d4 b o y, d5⟩
  · exact .inr ⟨e, ob, cls, rfl, d1, d2, d3, d4, fun b o y _ => d5 b o y⟩
/-- what is asked of the walk: the library's own words, but for the caller's contexts alone -/
abbrev WalkH (q : Program) (loose : List Str) (XP : (Str → Option Value) → Heap → Prop) (YP : World → Heap → Prop) (r : RowW) (d : DefRec) (kwd : List (Str × PySem.Expr)) : Prop :=
  ∀ (w : World) (s₀ s₁ : Shared) (mg mb : Str → Option Value), Ground q loose r.records XP w s₀ mg mb s₁.heap → YP w s₁.heap → ∀ (a : Addr) (o : Obj) (pm cd doc dV kV : Value), s₁.heap.get? a = some o →
    o.data = .func { docDef d.name d.params d.body d.scope pm cd doc with defaults := dV, kwdefaults := kV } → s₁.heap.CodeRec cd d.name → Dflts mg s₁.heap d.params kwd dV kV → mg d.name = some (.ref a) → s₁.gens = #[] →
    ∀ (args : List WData) (vals : List Value) (as : List Addr), r.claim.pre args = true → WData.layableAll args = true → ReadsAllW r.records (classAt s₀.heap) s₁.heap vals args as → WellAll w.params s₁.heap vals args → (∀ a ∈ as, (a == sysModules) = false) →
      wpH (model r.prog w) callerA (PySem.call (.ref a) vals) (fun v s' => GoodWG r.claim (classAt s₀.heap) (ExcName.means s₀.heap) args s₁ (.ok (.ret v)) s')
        (fun e s' => GoodWG r.claim (classAt s₀.heap) (ExcName.means s₀.heap) args s₁ (.error e) s') s₁
theorem PySem.W.holds_open {r : OpenRow} {q : Program} {loose : List Str} {Xt : Shared → Bool} {XP : (Str → Option Value) → Heap → Prop} {α : Type} {Yf : Shared → α} {Ya : World → α} {YP : World → Heap → Prop} {d : DefRec} {kwd : List (Str × PySem.Expr)} {N : Nat}
    (left : LeftO r.prog q loose Xt Yf Ya N) (hY : ∀ w s, Yf s = Ya w → YP w s.heap) (hYk : ∀ w h h', YP w h → (∀ b o, h.get? b = some o → h'.get? b = some o) → YP w h')
    (hX : ∀ s, Xt s = true → XP (s.heap.nsMap mainGlobals) s.heap) (hXk : ∀ mg h h', XP mg h → (∀ b o, h.get? b = some o → h'.get? b = some o) → XP mg h')
    (hdef : defOf q r.name = some (d, kwd)) (hp : r.prog.theDef r.name = some (d.params, d.body, d.scope)) (hk : kwWritten? d.params.kwonlyargs d.params.kw_defaults = some kwd) (hRf : ∀ s, Xt s = true → RecFacts r.records s.heap) (hwr : (!r.writes || r.records.isEmpty) = true)
    (k1 : r.wellSaid = true) (ok : (chainsOk q && opensWell r.prog && (frees r.toRowW && r.within.isEmpty)) = true) (hb : r.prog.bare) (hw : r.toRowW.promised)
    (call : WalkH q loose XP YP r.toRowW d kwd) : r.Holds := by
  refine ⟨k1, hw, ?_⟩
  obtain ⟨ok, k5⟩ := Bool.and_eq_true_iff.mp ok
  obtain ⟨hch, o1⟩ := Bool.and_eq_true_iff.mp ok
  obtain ⟨k5, k6⟩ := Bool.and_eq_true_iff.mp k5
  obtain ⟨hsame, hu, ha, hap, hm⟩ := frees_parts k5
  refine ⟨⟨hb, o1, by show r.makers.map _ = []; rw [hm]; rfl⟩, hw.witness, fun w => ⟨(left.behind hX hch w).1, fun s' hs' => ?_⟩⟩
  obtain ⟨s₀, hf, hg0, s, hT, hz, hgens, hg, G00, y⟩ := (left.behind (XP := fun mg h => XP mg h ∧ RecFacts r.records h) (fun s hs => ⟨hX s hs, hRf s hs⟩) hch w).2 s' hs'
  have G0 : Ground q loose [] XP w s (s.heap.nsMap mainGlobals) (s.heap.nsMap builtinsNs) s.heap := ⟨G00.T, G00.B, G00.D, G00.TE, G00.TD, G00.W, G00.X.1, G00.cls, G00.has, G00.apart, G00.once, G00.K⟩
  have RF := G00.X.2
  have hT' := hT
  refine ⟨s₀, hf, hg0, s, hT, fun n hn => ?_, RF.1, RF.2.1, ?_⟩
  · obtain rfl : n = r.name := by split at hn <;> simp_all
    exact pinned_of_view hg G0 hdef hp hk
  have hgens : s.gens = #[] := Array.eq_empty_of_size_eq_zero (beq_iff_eq.mp hgens)
  have G : Ground q loose r.records XP w s _ _ s.heap := RF.ground G0
  refine callFrom_H (c := r.claim) hz hgens fun args hpre hlay ord hord => ?_
  obtain ⟨⟨vs, s₁⟩, hlaid⟩ := Option.isSome_iff_exists.mp (layAllW_isSome (P := w.params) (ord := ord) G.has args r.args s (pre_splitW hpre).1)
  have keeps := layAllW_keeps _ _ _ hlaid
  have hal := layAllW_rest _ _ _ hlaid
  obtain ⟨as, hrd, hin, hold⟩ := reads_layAllW hord _ _ _ hlaid hlay s₁.heap (fun _ _ e => e)
  have L : Laid r.records w s s₁ args vs as := ⟨⟨ord, hord, hlaid⟩, hrd, hin, hold, keeps, hal.1.trans hgens, hal.2.2.1⟩
  have G₁ := G.keeps hXk keeps
  obtain ⟨a, o, pm, cd, doc, dV, kV, h1, h2, h3, h4, h5⟩ := G₁.fn hdef
  have h := call w s s₁ _ _ G₁ (hYk _ _ _ (hY w s y) keeps) a o pm cd doc dV kV h2 h3 h4 h5 (defOf_name hdef ▸ h1) L.gens args vs as hpre hlay L.reads L.well (L.low G.low)
  have hi := ident_freeW hu ha hap
  have hwi : r.claim.within = [] := List.isEmpty_iff.mp k6
  refine ⟨vs, s₁, hlaid, wpH_bind (wpH_any (wpAny_nsGet G₁.T.g ?_))⟩
  rw [h1]
  exact wpH_bind (wpH_mono h (fun v s' g => wpH_pure ⟨_, rfl, have z := g.laid (c := r.claim) hsame hwi hi L; ⟨z.1, z.2.1, z.2.2, fun q => ⟨namesKept_of hT' hg _ keeps g.2.1.old, noTable hwr q⟩⟩⟩) fun e s' g => have z := g.laid (c := r.claim) hsame hwi hi L; ⟨z.1, z.2.1, z.2.2, fun q => ⟨namesKept_of hT' hg _ keeps g.2.1.old, noTable hwr q⟩⟩)
end Mine
end

section
open PySem PySem.W PyProof.Rows
namespace Mine
set_option maxRecDepth 100000 in
set_option maxHeartbeats 8000000 in
open_top hd for PySem.Challenge.rw_pe0067_01
end Mine
namespace Mine
theorem topOff : True := by
  w_top off
  exact trivial
end Mine
end

section
open PySem PySem.W PySem.Calls PyProof.Rows
open Sem (wp)
set_option maxRecDepth 100000
set_option linter.unusedVariables false
namespace Mine
section
variable {M : Model} {A : Around} {E : Value → Shared → Prop} {s : Shared} {env : Env}
theorem wpH_keep {α : Type} {vs : List Value} {m : Sem α} {Q : α → Shared → Prop} (h : wpH M A m Q E s) : wpH M A (m.keep vs) Q E s := fun Γ p hΓ hC => by rw [Sem.wp_keep]; exact h Γ p hΓ hC
theorem h_cons {st : Stmt} {rest : List Stmt} {Q : Flow → Shared → Prop} (h : wpH M A (exec st env) (fun f s' => match f with | .next => wpH M A (execs rest env) Q E s' | f => Q f s') E s) : wpH M A (execs (st :: rest) env) Q E s := by
  show wpH M A (do match ← exec st env with | .next => execs rest env | f => pure f) Q E s
  refine wpH_bind (wpH_mono h (fun f s' h' => ?_) fun _ _ x => x)
  cases f <;> first | exact h' | exact wpH_pure h'
theorem h_nil {Q : Flow → Shared → Prop} (h : Q .next s) : wpH M A (execs [] env) Q E s := wpH_pure h
theorem h_assign {x : Str} {px : Pos} {value : PySem.Expr} {pos : Pos} {Q : Flow → Shared → Prop} (h : wpH M A (eval value env) (fun v s₁ => wpAny M A (storeName env x v) (fun _ => Q .next) E s₁) E s)
    (hs : swapsWith value (some (.Name x px)) pos.line env = pure false := by rfl) : wpH M A (exec (.Assign [.Name x px] value pos) env) Q E s := by
  rw [exec_Assign_Name env x px value pos hs]
  refine wpH_bind (wpH_any (wpAny_standAt (wpH_bind (wpH_mono h (fun v s₁ h₁ => ?_) fun _ _ x => x))))
  exact wpH_any (wpAny_bind (wpAny_standAt (wpAny_bind (wpAny_bindName (wpAny_mono h₁ (fun _ _ q => wpAny_pure q) fun _ _ q => q)))))
theorem h_call {func : PySem.Expr} {args : List PySem.Expr} {pos : Pos} {Q : Value → Shared → Prop}
    (h : wpAny M A (eval func env) (fun f s₁ => wpH M A (callWith pos f [] (backTo pos (starEach args env)) []) Q E s₁) E s)
    (he : eval (.Call func args [] pos) env = (do callWith pos (← eval func env) [] (backTo pos (starEach args env)) (backToKw pos (keywordEach [] env))) := by rfl) : wpH M A (eval (.Call func args [] pos) env) Q E s := by
  rw [he]; exact wpH_bind (wpH_any h)
theorem h_with {P : Heap → Prop} {pos : Pos} {f : Value} {args : List (Bool × Sem Value)} {Q : Value → Shared → Prop} (hplain : (args.any (·.1) || false) = false)
    (hk : ∀ h, P h → ∃ k, (k = Keeper.frame ∨ k = Keeper.machine ∨ k = Keeper.boundFrame) ∧ Looks M h (keeperOf f) k)
    (h : wpAny M A (evalArgs f true args []) (fun a s₁ => P s₁.heap ∧ wpH M A (call f ([] ++ a.pos) a.kw) Q E s₁) E s) : wpH M A (callWith pos f [] args []) Q E s := by
  unfold callWith
  refine wpH_bind (wpH_any (wpAny_holding (wpAny_mono h (fun a s₁ h₁ => wpH_bind (wpH_any (wpAny_standAt ?_))) fun _ _ x => x)))
  obtain ⟨k, hk', L⟩ := hk _ h₁.1
  simp only [List.any_nil, hplain]
  refine wpH_bind (wpH_any (L.here ?_))
  have tail : ∀ {t : Sem Value}, wpH M A t Q E s₁ → wpH M A (t >>= fun r => holding [r] point >>= fun _ => pure r) Q E s₁ :=
    fun ht => wpH_bind (wpH_mono ht (fun r s₂ hr => wpH_bind (wpH_holding (wpH_any (wpAny_point (wpH_pure hr))))) fun _ _ x => x)
  have marked (mk : Value) : wpH M A (callMarked mk f ([] ++ a.pos) a.kw) Q E s₁ := by unfold callMarked; exact wpH_keep h₁.2
  rcases hk' with rfl | rfl | rfl <;> dsimp only <;> first | exact tail h₁.2 | (split <;> first | exact tail h₁.2 | exact tail (marked _))
theorem h_withK {K : Frag} {pos : Pos} {f : Value} {e : PySem.Expr} {rest : List PySem.Expr} {Q : Value → Shared → Prop} (hk : keepIn K f = true)
    (h : wpAny M A (spliced (backTo pos (starEach (e :: rest) env))) (fun vs s₁ => K.In s₁.heap ∧ wpH M A (call f vs) Q E s₁) E s)
    (he : starEach (e :: rest) env = (false, eval e env) :: starEach rest env := by rfl) (hplain : (backTo pos (starEach rest env)).any (·.1) = false := by rfl) :
    wpH M A (callWith pos f [] (backTo pos (starEach (e :: rest) env)) []) Q E s := by
  rw [he] at h ⊢
  exact h_with (by show ((false || (backTo pos (starEach rest env)).any (·.1)) || false) = false; rw [hplain]; rfl) (keeps_K hk) (evalArgs_plain h)
theorem h_withT {T : String} {pos : Pos} {e : PySem.Expr} {rest : List PySem.Expr} {Q : Value → Shared → Prop}
    (h : wpAny M A (spliced (backTo pos (starEach (e :: rest) env))) (fun vs s₁ => wpH M A (call (.type T) vs) Q E s₁) E s)
    (he : starEach (e :: rest) env = (false, eval e env) :: starEach rest env := by rfl) (hplain : (backTo pos (starEach rest env)).any (·.1) = false := by rfl) :
    wpH M A (callWith pos (.type T) [] (backTo pos (starEach (e :: rest) env)) []) Q E s := by
  rw [he] at h ⊢
  exact h_with (P := fun _ => True) (by show ((false || (backTo pos (starEach rest env)).any (·.1)) || false) = false; rw [hplain]; rfl) (fun h _ => ⟨.machine, .inr (.inl rfl), Looks.of_pure rfl⟩) (evalArgs_plain (wpAny_mono h (fun _ _ x => ⟨trivial, x⟩) fun _ _ x => x))
theorem h_expr {value : PySem.Expr} {pos : Pos} {Q : Flow → Shared → Prop} (h : wpH M A (eval value env) (fun v s₁ => wpAny M A (dropValue value pos v) Q E s₁) E s)
    (hi : interactive env = false) (hs : swapsWith value none pos.line env = pure false) : wpH M A (exec (.Expr value pos) env) Q E s := by
  rw [arm_exec_Expr, hi, hs]
  exact wpH_bind (wpH_any (wpAny_standAt (wpH_bind (wpH_any (wpAny_pure (wpH_bind (wpH_mono h (fun v s₁ h₁ => wpH_any h₁) fun _ _ x => x)))))))
theorem h_if {test : PySem.Expr} {body orelse : List Stmt} {pos : Pos} {Q : Flow → Shared → Prop}
    (h : wpAny M A (isTrue test env (eval test env)) (fun b s₁ => if b = true then wpH M A (execs body env) Q E s₁ else wpH M A (execs orelse env) Q E s₁) E s) : wpH M A (exec (.If test body orelse pos) env) Q E s := by
  rw [arm_exec_If]
  refine wpH_bind (wpH_any (wpAny_standAt (wpH_bind (wpH_any (wpAny_mono h (fun b s₁ h₁ => ?_) fun _ _ x => x)))))
  cases b <;> exact h₁
theorem h_runOwn {c : Code} {Q : Flow → Shared → Prop} (hc : codeH M A c (fun r s' => match r with | .ok f => Q f s' | .error e => cameBackBy M A env E e s') s) : wpH M A (runOwn c env) Q E s := by
  unfold runOwn
  exact wpH_onRaise (wpH_mono (wpH_run (h := none) (E := fun e s' => cameBackBy M A env E e s') hc (by intro x; cases x)) (fun _ _ x => x) fun e s' x => wpH_any x)
theorem h_while {test : PySem.Expr} {body orelse : List Stmt} {pos : Pos} {Q : Flow → Shared → Prop}
    (h : codeH M A (.whileLoop test body orelse env) (fun r s' => match r with | .ok f => Q f s' | .error e => cameBackBy M A env E e s') s) : wpH M A (exec (.While test body orelse pos) env) Q E s := by
  rw [arm_exec_While]; exact wpH_bind (wpH_any (wpAny_standAt (h_runOwn h)))
theorem h_for {target iter : PySem.Expr} {body orelse : List Stmt} {pos : Pos} {Q : Flow → Shared → Prop}
    (h : wpAny M A (eval iter env) (fun x s₁ => wpAny M A (pyIter x) (fun it s₂ => codeH M A (.forLoop target it body orelse env) (fun r s' => match r with | .ok f => Q f s' | .error e => cameBackBy M A env E e s') s₂) E s₁) E s)
    (hs : ∀ x, foldedSetIterable iter env x = pure x) : wpH M A (exec (.For target iter body orelse pos) env) Q E s := by
  rw [arm_exec_For]
  refine wpH_bind (wpH_any (wpAny_standAt (wpH_bind (wpH_any (wpAny_mono h (fun x s₁ h₁ => ?_) fun _ _ x => x)))))
  rw [hs x]
  refine wpH_bind (wpH_any (wpAny_pure (wpH_bind (wpH_any (wpAny_standAt (wpH_bind (wpH_any (wpAny_holding (wpAny_mono h₁ (fun it s₂ h₂ => h_runOwn h₂) fun _ _ x => x)))))))))
theorem h_try {body orelse : List Stmt} {h₀ : ExceptHandler} {hs : List ExceptHandler} {pos : Pos} {Q : Flow → Shared → Prop}
    (h : wpH M A (execs body env) (fun f s₁ => match f with | .next => wpAny M A (execs orelse env) Q E s₁ | f => Q f s₁)
      (fun e s₁ => wpAny M A (noteFrame e env) (fun _ s₂ => wpAny M A (setFlight e none) (fun _ s₃ => wpAny M A (handleBy e env (h₀ :: hs)) Q E s₃) E s₂) E s₁) s) :
    wpH M A (exec (.Try body (h₀ :: hs) orelse [] pos) env) Q E s := by
  rw [arm_exec_Try]
  refine wpH_bind (wpH_any (wpAny_standAt ?_))
  unfold tryStmt
  simp only [List.isEmpty_nil, if_true, List.isEmpty_cons, Bool.false_and, Bool.false_eq_true, if_false]
  refine wpH_bind (wpH_attempt (wpH_mono h (fun f s₁ h₁ => ?_) fun e s₁ h₁ => ?_))
  · cases f <;> first | exact wpH_any h₁ | exact wpH_pure h₁
  · exact wpH_any (wpAny_bind (wpAny_mono h₁ (fun _ _ h₂ => wpAny_bind h₂) fun _ _ x => x))
end
section
variable {prog : Program} {w : World} {A : Around} {E : Value → Shared → Prop} {s : Shared} {env : Env} {R : Result → Shared → Prop}
theorem h_forLoop {target it body env} (I : Nat → Shared → Prop)
    (turn : ∀ n s, I n s → wpAny (model prog w) A (pyNext it) (fun r s₁ => match r with
      | none => R (.ok .next) s₁
      | some v => wpAny (model prog w) A (assign target env v) (fun _ s₂ => wpH (model prog w) A (execs body env) (fun f s₃ => match f with
          | .next | .cont => ∃ m, m < n ∧ I m s₃
          | .brk => R (.ok .next) s₃
          | .ret v => R (.ok (.ret v)) s₃) (fun _ _ => False) s₂) (fun _ _ => False) s₁) (fun _ _ => False) s)
    (n : Nat) (h : I n s) (ht : ∀ v, letOwnedTupleGo target it v = pure () := by intro _; rfl) : codeH (model prog w) A (.forLoop target it body [] env) R s := by
  refine codeH_loop rfl I (fun n s hI => ?_) n h
  show wpH _ A ((forTurn target it body [] env).onRaise (fun x => do noteFrame x env; theTreesLotGoes x)) _ _ s
  refine wpH_onRaise (wpH_mono (E := fun _ _ => False) ?_ (fun _ _ x => x) fun _ _ x => x.elim)
  simp only [forTurn]
  refine wpH_bind (wpH_any (wpAny_standAt (wpH_bind (wpH_onRaise (wpH_any (wpAny_mono (turn n s hI) (fun r s₁ h₁ => ?_) fun _ _ h' => h'.elim))))))
  cases r with
  | none => exact wpH_pure (.inr ⟨rfl, codeH_any (codeAny_block (wpAny_execs_nil h₁))⟩)
  | some v =>
    refine wpH_bind (wpH_of_eq (ht v) (wpH_pure ?_))
    refine wpH_bind (wpH_any (wpAny_mono h₁ (fun _ s₂ h₂ => wpH_bind (wpH_mono h₂ (fun f s₃ h₃ => ?_) fun _ _ h' => h')) fun _ _ h' => h'))
    cases f with
    | next => exact wpH_pure (.inl ⟨rfl, h₃⟩)
    | cont => exact wpH_pure (.inl ⟨rfl, h₃⟩)
    | brk => exact wpH_pure h₃
    | ret v => exact wpH_pure h₃
theorem h_whileLoop {test body env} (I : Nat → Shared → Prop)
    (turn : ∀ n s, I n s → wpAny (model prog w) A (isTrue test env (eval test env)) (fun b s₁ => if b = true then
        wpH (model prog w) A (execs body env) (fun f s₃ => match f with
          | .next | .cont => ∃ m, m < n ∧ I m s₃
          | .brk => R (.ok .next) s₃
          | .ret v => R (.ok (.ret v)) s₃) (fun _ _ => False) s₁ else R (.ok .next) s₁) (fun _ _ => False) s)
    (n : Nat) (h : I n s) : codeH (model prog w) A (.whileLoop test body [] env) R s := by
  refine codeH_loop rfl I (fun n s hI => ?_) n h
  show wpH _ A ((whileTurn test body [] env).onRaise (fun x => do noteFrame x env; theTreesLotGoes x)) _ _ s
  refine wpH_onRaise (wpH_mono (E := fun _ _ => False) ?_ (fun _ _ x => x) fun _ _ x => x.elim)
  simp only [whileTurn]
  refine wpH_bind (wpH_any (wpAny_mono (turn n s hI) (fun b s₁ h₁ => ?_) fun _ _ h' => h'))
  cases b with
  | false => exact wpH_any (wpAny_bind (wpAny_execs_nil (wpAny_pure h₁)))
  | true =>
    refine wpH_bind (wpH_mono h₁ (fun f s₃ h₃ => ?_) fun _ _ h' => h')
    cases f with
    | next => exact wpH_pure (.inl ⟨rfl, h₃⟩)
    | cont => exact wpH_pure (.inl ⟨rfl, h₃⟩)
    | brk => exact wpH_pure h₃
    | ret v => exact wpH_pure h₃
theorem h_func {body env} (h : wpH (model prog w) (A.deeper env) (execs body env) (fun f s' => R (.ok (.ret (match f with | .ret v => v | _ => .none))) s') (fun _ _ => False) s) : codeH (model prog w) A (.func body env) R s := by
  refine codeH_of_tree ?_
  show wpH _ (A.deeper env) (do point; match ← (execs body env).onRaise (leaving env) with | .ret v => ret v | _ => ret .none) _ _ s
  refine wpH_bind (wpH_any (wpAny_point (wpH_bind (wpH_onRaise (wpH_mono h (fun f s' h' => ?_) fun _ _ h' => h'.elim)))))
  cases f <;> exact wpH_pure h'
theorem h_function {a : Addr} {args : Args} {o : Obj} {fd : FuncData} {body : List Stmt} (hroom : A.depth < recursionLimit) (ho : s.heap.get? a = some o)
    (hd' : o.data = .func fd) (hco : fd.scope.isCoroutine = false) (hgen : fd.scope.isGenerator = false) (hbody : fd.body = .stmts body) (hcd : s.heap.CodeRec fd.code fd.qualname)
    (h : wpAny (model prog w) A.in1 (bindArgs fd args) (fun binds s₁ =>
      wpAny (model prog w) A.in1 (newFunctionEnv fd.scope fd.globals fd.closure binds (fd.qualname ++ ".<locals>.") (some a) fd.code none fd.builtins)
        (fun env s₂ => s₂.heap.NoLimit ∧ codeH (model prog w) A (.func body env) R s₂) (fun e s' => R (.error e) s') s₁) (fun e s' => R (.error e) s') s) :
    codeH (model prog w) A (.call (.ref a) args) R s := by
  refine codeH_of_tree ?_
  show wpH _ A.in1 (callAny (.ref a) args) _ _ s
  simp only [callAny]
  refine wpH_bind (wpH_any (wpAny_load ho ?_))
  obtain ⟨c, oc, vs, tq, hc, hoc, hdc, hq⟩ := hcd
  simp only [hd', callFunction, hco, hgen, hbody, hc]
  rw [hc] at h
  refine wpH_bind (m := field (.ref c) 1) (wpH_any (wpAny_field hoc hdc hq (wpH_bind (wpH_any (wpAny_pure ?_)))))
  exact wpH_bind (wpH_any (wpAny_mono h (fun binds s₁ h₁ => wpH_bind (wpH_any (wpAny_mono h₁ (fun env s₂ h₂ => wpH_bind (wpH_any (wpAny_enterFrame h₂.1 hroom
    (wpH_pure (And.intro rfl h₂.2))))) fun _ _ h' => h'))) fun _ _ h' => h'))
end
end Mine
end

section
open PySem PySem.W PySem.Calls PyProof.Rows
set_option maxRecDepth 100000
set_option linter.unusedVariables false
namespace Mine
theorem new_H {M : Model} {A : Around} {E : Value → Shared → Prop} {s : Shared} {x : Str} {u t : Tok} {Q : PySem.Fin → Shared → Prop} (hall : x.cps.all (· < 128) = true)
    (h : wpH M A ((int_private% "intFromText") (.str x u) x.cps.toList 10) (fun v s' => Q (.done (.ret v)) s') E s) : wpH M A (Builtin.«int.__new__» ⟨[.type "int", .str x u, .int 10 t], []⟩) Q E s := by
  unfold Builtin.«int.__new__»
  have f1 := F.conv_sub_int
  have f2 := F.madeHere_int
  show wpH M A (isType (.type "int") >>= _) Q E s
  refine wpH_bind (wpH_of_eq (show isType (.type "int") = pure true from rfl) (wpH_pure ?_))
  show wpH M A (isSubtype (.type "int") (.type "int") >>= _) Q E s
  rw [f1]
  refine wpH_bind (wpH_pure ?_)
  show wpH M A (Bind.madeHere "int.__new__" (.type "int") >>= _) Q E s
  rw [f2]
  refine wpH_bind (wpH_pure ?_)
  show wpH M A ((int_private% "intFromText") (.str x u) (if x.cps.all (· < 128) = true then x.cps.toList else Unicode.numberText x.cps.toList) 10 >>= fun v => ret v) Q E s
  rw [if_pos hall]
  exact wpH_bind (wpH_mono h (fun v s' q => wpH_pure q) fun _ _ q => q)
section
variable {prog : Program} {w : World} {A : Around} {E : Value → Shared → Prop} {s : Shared} {x : Str} {u t : Tok}
theorem text_H {Q : Value → Shared → Prop} (hh : A.handled = none)
    (hr : (int_private% "readNumeral") 0 10 (x.cps.toList.takeWhile (· != 0)) = (int_private% "Numeral.invalid")) (hs : (x.cps.toList.takeWhile (· != 0)).length ≤ 640) (hl : (reprText x).length ≤ sizeLine)
    (h : ∀ h' tk e, Heap.NewExc s.heap h' e "ValueError" → E (.ref e) { s with heap := h', toks := tk }) : wpH (model prog w) A ((int_private% "intFromText") (.str x u) x.cps.toList 10) Q E s := by
  show wpH (model prog w) A (if (x.cps.toList.takeWhile (· != 0)).length ≤ 640 then _ else _) Q E s
  rw [if_pos hs]
  refine wpH_bind (wpH_pure ?_)
  dsimp only
  rw [hr]
  dsimp only
  refine wpH_bind (wpH_of_eq (show (int_private% "bytesOf?") (Value.str x u) = pure none from rfl) (wpH_pure ?_))
  rw [if_neg (by simp)]
  refine wpH_bind (wpH_any (wpAny_rule ?_))
  refine wpH_bind (wpH_of_eq (show (int_private% "bytesOf?") (Value.str x u) = pure none from rfl) (wpH_pure ?_))
  dsimp only
  refine wpH_bind (wpH_any (wpAny_pyRepr_str ?_ hl))
  refine wpH_bind (wpH_any (wpAny_mkStr ?_ ?_))
  · refine wpH_bind (wpH_any (wpAny_newExc_plain plainExc_ValueError fun h' e hx => ?_))
    refine wpH_bind (wpH_mark (wpH_any (wpAny_raiseNew_none hh ?_)))
    exact h h' _ e hx.newExc
  · rw [Str.length_append]
    show _ + ((reprText x).cps.extract 0 200).size ≤ sizeLine
    have : ((reprText x).cps.extract 0 200).size ≤ 200 := by simp; omega
    have h2 : (Str.ofString (toString "invalid literal for int() with base " ++ toString 10 ++ toString ": ")).length ≤ 100 := by decide +kernel
    simp only [sizeLine]; omega
theorem codeH_builtin {R : Result → Shared → Prop} {id : String} {args : Args} {b : Builtin} (hb : entryFor table id = some b)
    (h : wpH (model prog w) (A.under (.builtin id args)) (b args) (fun fin s' => match fin with | .done f => R (.ok f) s' | .again c' => c'.quiet = true ∧ codeH (model prog w) A c' R s') (fun e s' => R (.error e) s') s) :
    codeH (model prog w) A (.builtin id args) R s := by
  refine codeH_of_tree ?_
  show wpH _ _ (match entryFor table id with | some b => b args | none => unsupported ((withoutEnding? id "#data").getD id)) _ _ s
  rw [hb]; exact h
theorem typeCall_int_2 (a b : Value) : checkTypeCall "int" ⟨[a, b], []⟩ = pure () := by kernel_rfl
theorem newCall_int_2 (a b : Value) : checkBuiltinCall "int.__new__" ⟨[.type "int", a, b], []⟩ = pure () := by kernel_rfl
theorem int_H {Q : Value → Shared → Prop} (hh : A.handled = none) (hall : x.cps.all (· < 128) = true)
    (hr : (int_private% "readNumeral") 0 10 (x.cps.toList.takeWhile (· != 0)) = (int_private% "Numeral.invalid")) (hs : (x.cps.toList.takeWhile (· != 0)).length ≤ 640) (hl : (reprText x).length ≤ sizeLine)
    (h : ∀ h' tk e, Heap.NewExc s.heap h' e "ValueError" → E (.ref e) { s with heap := h', toks := tk }) : wpH (model prog w) A (call (.type "int") [.str x u, .int 10 t]) Q E s := by
  refine wpH_call (codeH_of_tree ?_)
  show wpH _ _ (callAny (.type "int") _) _ _ _
  refine wpH_pure ⟨Code.quiet_builtin _ (by decide +kernel), codeH_builtin F.entry_type_call ?_⟩
  rw [Around.under_plain (weight_type_call_type "int" [.str x u, .int 10 t] []) (units_type_call_type "int" [.str x u, .int 10 t] [])]
  have ft := F.called_int
  obtain ⟨c, tl, hmro⟩ := ft.mro
  unfold Builtin.«type.__call__»
  show wpH _ _ (if (Value.type "int" == Value.type "type") = true then _ else _) _ _ _
  rw [if_neg (by decide)]
  show wpH _ _ (if ((Manifest.find? "int").bind _).getD false = true then _ else _) _ _ _
  rw [if_neg (by rw [show _ = false from ft.canCreate]; exact Bool.false_ne_true)]
  rw [typeCall_int_2]
  refine wpH_bind (wpH_pure ?_)
  rw [hmro]
  refine wpH_bind (wpH_pure ?_)
  show wpH _ _ (Bind.madeBy (.type "int") >>= _) _ _ _
  rw [ft.made]
  refine wpH_bind (wpH_pure (wpH_bind (wpH_pure ?_)))
  refine wpH_bind (wpH_holding (wpH_call (codeH_of_tree ?_)))
  show wpH _ _ (checkBuiltinCall "int.__new__" ⟨[.type "int", .str x u, .int 10 t], []⟩ >>= fun _ => again _) _ _ _
  rw [newCall_int_2]
  refine wpH_bind (wpH_pure (wpH_pure ⟨plainId_quiet ft.plain _, codeH_builtin F.entry_int_new ?_⟩))
  refine new_H hall (text_H ?_ hr hs hl ?_)
  · exact hh
  · exact h
end
end Mine
end

section
open PySem PySem.W PySem.Calls PyProof.Rows
set_option maxRecDepth 100000
set_option linter.unusedVariables false
namespace Mine
theorem args_init_3 (a b c : Value) : argsOk "object.__init__" ⟨[a, b, c], []⟩ := by
  unfold argsOk; kernel_rfl
theorem gives10 {x : Str} {u t : Tok} {n : Int} (hall : x.cps.all (· < 128) = true) (hs : (x.cps.toList.takeWhile (· != 0)).length ≤ 640) (hr : (int_private% "readNumeral") 0 10 (x.cps.toList.takeWhile (· != 0)) = (int_private% "Numeral.value") n)
    (ha : ((x.cps.toList.takeWhile (· != 0)).length == x.cps.toList.length) = true) : Gives (Builtin.«int.__new__» ⟨[.type "int", .str x u, .int 10 t], []⟩) (.int n) :=
  .of_wp fun M A E s Q h => by
    unfold Builtin.«int.__new__»
    have f1 := F.conv_sub_int
    have f2 := F.madeHere_int
    show wpAny M A (isType (.type "int") >>= _) _ E s
    refine wpAny_bind (wpAny_of_eq (show isType (.type "int") = pure true from rfl) ?_)
    show wpAny M A (isSubtype (.type "int") (.type "int") >>= _) _ E s
    rw [f1]
    refine wpAny_bind (wpAny_pure ?_)
    show wpAny M A (Bind.madeHere "int.__new__" (.type "int") >>= _) _ E s
    rw [f2]
    refine wpAny_bind (wpAny_pure ?_)
    show wpAny M A ((int_private% "intFromText") (.str x u) (if x.cps.all (· < 128) = true then x.cps.toList else Unicode.numberText x.cps.toList) 10 >>= fun v => ret v) _ E s
    rw [if_pos hall]
    refine wpAny_bind (KIN.wp_text hs hr ha ?_)
    exact wpAny_pure ⟨_, rfl, h⟩
section
variable {prog : Program} {w : World} {A : Around} {E : Value → Shared → Prop} {s : Shared} {x : Str} {u t : Tok}
theorem int_ok {Q : Value → Shared → Prop} {n : Int} (hall : x.cps.all (· < 128) = true) (hs : (x.cps.toList.takeWhile (· != 0)).length ≤ 640) (hr : (int_private% "readNumeral") 0 10 (x.cps.toList.takeWhile (· != 0)) = (int_private% "Numeral.value") n)
    (ha : ((x.cps.toList.takeWhile (· != 0)).length == x.cps.toList.length) = true) (h : Q (.int n s.toks) { s with toks := s.toks + 1 }) : wpAny (model prog w) A (call (.type "int") [.str x u, .int 10 t]) Q E s :=
  callType_new F.called_int F.newNe_int (typeCall_int_2 _ _) (newCall_int_2 _ _) (fun obj => args_init_3 obj _ _) F.entry_int_new (gives10 hall hs hr ha).meets (show (Made.int n).post _ s from ⟨rfl, h⟩)
end
/-- the parts of the law's words -/
def partS : Nat → String
  | 0 => " " | 1 => "\"" | 2 => "\\" | 3 => "x" | 4 => "dev" | 5 => "a" | 6 => "alpha" | 7 => "b" | 8 => "beta" | 9 => "c" | 10 => "RC" | 11 => "rc" | 12 => "9" | 13 => "10" | 14 => "p" | 15 => "pl" | _ => ""
end Mine
end

section
open PySem PySem.W PySem.Calls PyProof.Rows
set_option maxRecDepth 100000
namespace Mine
inductive Ex3 {α1 : Type} {α2 : Type} {α3 : Type} (p : α1 → α2 → α3 → Prop) : Prop
  | mk (x1 : α1) (x2 : α2) (x3 : α3) (h : p x1 x2 x3) : Ex3 p
inductive Ex4 {α1 : Type} {α2 : Type} {α3 : Type} {α4 : Type} (p : α1 → α2 → α3 → α4 → Prop) : Prop
  | mk (x1 : α1) (x2 : α2) (x3 : α3) (x4 : α4) (h : p x1 x2 x3 x4) : Ex4 p
inductive Ex5 {α1 : Type} {α2 : Type} {α3 : Type} {α4 : Type} {α5 : Type} (p : α1 → α2 → α3 → α4 → α5 → Prop) : Prop
  | mk (x1 : α1) (x2 : α2) (x3 : α3) (x4 : α4) (x5 : α5) (h : p x1 x2 x3 x4 x5) : Ex5 p
inductive Ex6 {α1 : Type} {α2 : Type} {α3 : Type} {α4 : Type} {α5 : Type} {α6 : Type} (p : α1 → α2 → α3 → α4 → α5 → α6 → Prop) : Prop
  | mk (x1 : α1) (x2 : α2) (x3 : α3) (x4 : α4) (x5 : α5) (x6 : α6) (h : p x1 x2 x3 x4 x5 x6) : Ex6 p
inductive Ex7 {α1 : Type} {α2 : Type} {α3 : Type} {α4 : Type} {α5 : Type} {α6 : Type} {α7 : Type} (p : α1 → α2 → α3 → α4 → α5 → α6 → α7 → Prop) : Prop
  | mk (x1 : α1) (x2 : α2) (x3 : α3) (x4 : α4) (x5 : α5) (x6 : α6) (x7 : α7) (h : p x1 x2 x3 x4 x5 x6 x7) : Ex7 p
inductive Ex8 {α1 : Type} {α2 : Type} {α3 : Type} {α4 : Type} {α5 : Type} {α6 : Type} {α7 : Type} {α8 : Type} (p : α1 → α2 → α3 → α4 → α5 → α6 → α7 → α8 → Prop) : Prop
  | mk (x1 : α1) (x2 : α2) (x3 : α3) (x4 : α4) (x5 : α5) (x6 : α6) (x7 : α7) (x8 : α8) (h : p x1 x2 x3 x4 x5 x6 x7 x8) : Ex8 p
inductive Ex9 {α1 : Type} {α2 : Type} {α3 : Type} {α4 : Type} {α5 : Type} {α6 : Type} {α7 : Type} {α8 : Type} {α9 : Type} (p : α1 → α2 → α3 → α4 → α5 → α6 → α7 → α8 → α9 → Prop) : Prop
  | mk (x1 : α1) (x2 : α2) (x3 : α3) (x4 : α4) (x5 : α5) (x6 : α6) (x7 : α7) (x8 : α8) (x9 : α9) (h : p x1 x2 x3 x4 x5 x6 x7 x8 x9) : Ex9 p
inductive An2 (p1 p2 : Prop) : Prop
  | mk (h1 : p1) (h2 : p2) : An2 p1 p2
inductive An3 (p1 p2 p3 : Prop) : Prop
  | mk (h1 : p1) (h2 : p2) (h3 : p3) : An3 p1 p2 p3
inductive An4 (p1 p2 p3 p4 : Prop) : Prop
  | mk (h1 : p1) (h2 : p2) (h3 : p3) (h4 : p4) : An4 p1 p2 p3 p4
inductive An5 (p1 p2 p3 p4 p5 : Prop) : Prop
  | mk (h1 : p1) (h2 : p2) (h3 : p3) (h4 : p4) (h5 : p5) : An5 p1 p2 p3 p4 p5
inductive An6 (p1 p2 p3 p4 p5 p6 : Prop) : Prop
  | mk (h1 : p1) (h2 : p2) (h3 : p3) (h4 : p4) (h5 : p5) (h6 : p6) : An6 p1 p2 p3 p4 p5 p6
inductive An7 (p1 p2 p3 p4 p5 p6 p7 : Prop) : Prop
  | mk (h1 : p1) (h2 : p2) (h3 : p3) (h4 : p4) (h5 : p5) (h6 : p6) (h7 : p7) : An7 p1 p2 p3 p4 p5 p6 p7
inductive An8 (p1 p2 p3 p4 p5 p6 p7 p8 : Prop) : Prop
  | mk (h1 : p1) (h2 : p2) (h3 : p3) (h4 : p4) (h5 : p5) (h6 : p6) (h7 : p7) (h8 : p8) : An8 p1 p2 p3 p4 p5 p6 p7 p8
inductive An9 (p1 p2 p3 p4 p5 p6 p7 p8 p9 : Prop) : Prop
  | mk (h1 : p1) (h2 : p2) (h3 : p3) (h4 : p4) (h5 : p5) (h6 : p6) (h7 : p7) (h8 : p8) (h9 : p9) : An9 p1 p2 p3 p4 p5 p6 p7 p8 p9
abbrev PR : Program := PySem.Challenge.rw_pe0067_01.row.prog
/-- all but the footprint stays -/
def Mod (fp : List Addr) (h h' : Heap) : Prop := ∀ b o, h.get? b = some o → b ∉ fp → h'.get? b = some o
abbrev Aw (hn : Option Value) (dp : Nat) (outer : List Env) (gd : Option (List Code)) (un : Nat) : Around := { handled := hn, depth := dp, frames := some outer, guards := gd, units := un }
/-- the ground under a call -/
structure Gd (w : World) (b₀ : Heap) (outer : List Env) (h : Heap) (fp : List Addr) : Prop where
  X : (hd.heap_39 w.params).In b₀
  T : ∃ p loose mean mg mb, Top p loose mean mg mb b₀
  st : b₀.StaysIn h
  ff : h.FunFrames b₀ outer
  ap : ∀ a ∈ fp, b₀.get? a = none ∧ ∀ env ∈ outer, env.frame ≠ some a
/-- what stands at a body's end -/
structure Ends (s : Shared) (g : Heap) (Φ : Value → Heap → Prop) (v : Value) (s' : Shared) : Prop where
  out : ∃ h' tk, s' = { s with heap := h', toks := tk } ∧ g.StaysIn h' ∧ Φ v h'
theorem Ends.of {s : Shared} {g : Heap} {Φ : Value → Heap → Prop} {v : Value} {L : Addr} {m : Str → Option Value} {h' : Heap} {tk : Nat} (F : Fr g L h' m) (hΦ : Φ v h') :
    Ends s g Φ v { s with heap := h', toks := tk } := ⟨h', tk, rfl, F.keep, hΦ⟩
theorem enter {w : World} {b₀ : Heap} {hn : Option Value} {dp un : Nat} {gd : Option (List Code)} {outer : List Env} {s : Shared} {fps : List (Addr × Obj)}
    {R : Result → Shared → Prop} {name qual : Str} {params : Arguments} {body : List Stmt} {scope : Scope} {dV kV doc pm cdv ct oc : Value} {an od : Option Addr} {osl : Array (Option Value)} {f : Addr} {args : Args} {binds : List (Str × Value)}
    {Φ : Value → Heap → Prop}
    (G : Gd w b₀ outer s.heap (fps.map (·.1))) (hfp : ∀ q ∈ fps, s.heap.get? q.1 = some q.2)
    (ho : (hd.heap_39 w.params).lookup f = some ⟨oc, od, .func (fnOf name qual params body scope dV kV doc pm an cdv ct), osl⟩) (hcd : codeIn (hd.heap_39 w.params) cdv qual = true) (hroom : dp < recursionLimit)
    (hbind : BindsTo s (fnOf name qual params body scope dV kV doc pm an cdv ct) args binds) (hloc : ∀ y ∈ binds, scope.names.lookup y.1 = some .local)
    (h : ∀ p loose mean mg mb g L' h₁, Fr g L' h₁ (fun y => binds.reverse.lookup y) → News g L' h₁ fps → Below (Aw hn dp outer gd un) b₀ outer g → (hd.heap_39 w.params).In g → Top p loose mean mg mb g → (∀ q ∈ fps, q.1 < L') →
      wpAny (model PR w) ((Aw hn dp outer gd un).deeper (envOf qual scope L' f cdv)) (execs body (envOf qual scope L' f cdv))
        (fun fl s' => Ends s g Φ (match fl with | .ret v => v | _ => .none) s')
        (fun _ _ => False)
        { s with heap := h₁, toks := s.toks + binds.length })
    (ret : ∀ v h' tk, Mod (fps.map (·.1)) s.heap h' → Φ v h' → R (.ok (.ret v)) { s with heap := h', toks := tk })
    (hco : scope.isCoroutine = false) (hgen : scope.isGenerator = false) (hk : scope.kind = .function)
    (hcell : ∀ x ∈ scope.names, x.2 ≠ .cell) :
    codeAny (model PR w) (Aw hn dp outer gd un) (.call (.ref f) args) R s := by
  obtain ⟨X, ⟨p, loose, mean, mg, mb, T⟩, st, ff, ap⟩ := G
  have nm : ∀ b o, b₀.get? b = some o → b ∉ fps.map (·.1) := fun b o e q => by
    rw [(ap b q).1] at e; cases e
  have st' : b₀.StaysIn (hideAll s.heap (fps.map (·.1))) := fun b o e => hideAll_get _ (st b o e) (nm b o e)
  have X' := X.keeps st'
  have T' := T.keeps st'
  have Xs := X.keeps st
  have B : Below (Aw hn dp outer gd un) b₀ outer (hideAll s.heap (fps.map (·.1))) := ⟨rfl, st', funFrames_hideAll ff fun env he a ha => (ap a ha).2 env he⟩
  refine codeAny_call_def (fd := fnOf name qual params body scope dV kV doc pm an cdv ct) (body := body) (binds := binds) hroom (Xs _ _ ho) rfl (T.keeps st).nolimit (codeRec_of Xs hcd) rfl hbind hcell hloc (fun h₁ hns hk₁ => ?_) hco hgen hk
  refine wpAny_mono (h p loose mean mg mb _ s.heap.objs.size h₁ ⟨hns, fun b o e => hk₁ b o (of_hideAll _ e), Nat.le_of_eq (hideAll_size _ _)⟩
    (fun q hq => ⟨hk₁ _ _ (hfp q hq), Nat.ne_of_lt (Heap.lt_size (hfp q hq)), hideAll_none _ (List.mem_map_of_mem hq)⟩) B X' T' (fun q hq => Heap.lt_size (hfp q hq))) (fun fl s' hl => ?_) fun _ _ y => y.elim
  obtain ⟨h', tk, rfl, sg, hΦ⟩ := hl.out
  exact ret _ _ _ (fun b o e hb => sg b o (hideAll_get _ e hb)) hΦ
local macro_rules | `(tactic| ktr_unf) => `(tactic| skip)
end Mine
end

section
open PySem PySem.W PySem.Calls PyProof.Rows
set_option maxRecDepth 100000
set_option linter.unusedVariables false
namespace Mine
abbrev frA (outer : List Env) : List Addr := outer.filterMap (·.frame)
/-- the frames' objects with other slots -/
def reSl (f : Addr → Array (Option Value)) (frs : List (Addr × Obj)) : List (Addr × Obj) := frs.map fun q => (q.1, { q.2 with slots := f q.1 })
theorem reSl_re {f g : Addr → Array (Option Value)} {frs : List (Addr × Obj)} : reSl f (reSl g frs) = reSl f frs := by
  unfold reSl; rw [List.map_map]; rfl
theorem reSl_fst {f : Addr → Array (Option Value)} {frs : List (Addr × Obj)} : (reSl f frs).map (·.1) = frs.map (·.1) := by
  unfold reSl; rw [List.map_map]; rfl
theorem reSl_ne {f : Addr → Array (Option Value)} {frs : List (Addr × Obj)} {d : Addr} (h : ∀ p ∈ frs, p.1 < d) : ∀ p ∈ reSl f frs, p.1 ≠ d := by
  intro p hp
  obtain ⟨q, hq, rfl⟩ := List.mem_map.mp hp
  exact Nat.ne_of_lt (h q hq)
/-- all but the footprint stays; the frames below may be looked at -/
structure ModF (outer : List Env) (fp : List Addr) (h h' : Heap) : Prop where
  keep : ∀ b o, h.get? b = some o → b ∉ fp → b ∉ frA outer → h'.get? b = some o
  frs : ∀ b ∈ frA outer, ∀ o, h.get? b = some o → ∃ sl, h'.get? b = some { o with slots := sl }
/-- the frames below -/
structure Frs (b₀ : Heap) (outer : List Env) (h : Heap) (frs : List (Addr × Obj)) : Prop where
  adr : frs.map (·.1) = frA outer
  has : ∀ q ∈ frs, h.get? q.1 = some q.2
  ff : h.FunFrames b₀ outer
structure EndsF (s : Shared) (g : Heap) (frs : List (Addr × Obj)) (Φ : Value → Heap → Prop) (v : Value) (s' : Shared) : Prop where
  out : ∃ h' tk, s' = { s with heap := h', toks := tk } ∧ g.StaysIn h' ∧ (∀ q ∈ frs, ∃ sl, h'.get? q.1 = some { q.2 with slots := sl }) ∧ Φ v h'
theorem EndsF.of {s : Shared} {g : Heap} {frs : List (Addr × Obj)} {Φ : Value → Heap → Prop} {v : Value} {L : Addr} {m : Str → Option Value} {h' : Heap} {tk : Nat} {f : Addr → Array (Option Value)} {news : List (Addr × Obj)} (F : Fr g L h' m) (N : News g L h' news)
    (hs : ∀ p ∈ reSl f frs, p ∈ news) (hΦ : Φ v h') : EndsF s g frs Φ v { s with heap := h', toks := tk } :=
  ⟨h', tk, rfl, F.keep, fun q hq => ⟨f q.1, (N _ (hs (q.1, { q.2 with slots := f q.1 }) (List.mem_map.mpr ⟨q, hq, rfl⟩))).1⟩, hΦ⟩
theorem ff_of {b₀ h h' : Heap} : ∀ {outer : List Env}, h.FunFrames b₀ outer → (∀ b ∈ frA outer, ∀ o, h.get? b = some o → ∃ sl, h'.get? b = some { o with slots := sl }) → h'.FunFrames b₀ outer
  | [], _, _ => trivial
  | env :: rest, ⟨hk, ⟨L, o, hf, hn, ho, hd⟩, hr⟩, k => by
    have hm : L ∈ frA (env :: rest) := List.mem_filterMap.mpr ⟨env, .head _, hf⟩
    obtain ⟨sl, hsl⟩ := k L hm o ho
    refine ⟨hk, ⟨L, _, hf, hn, hsl, hd⟩, ff_of hr fun b hb => k b ?_⟩
    obtain ⟨e, he, hbe⟩ := List.mem_filterMap.mp hb
    exact List.mem_filterMap.mpr ⟨e, .tail _ he, hbe⟩
theorem frs_of {b₀ h : Heap} : ∀ {outer : List Env}, h.FunFrames b₀ outer → ∃ frs : List (Addr × Obj), frs.map (·.1) = frA outer ∧ ∀ q ∈ frs, h.get? q.1 = some q.2
  | [], _ => ⟨[], rfl, fun _ h => nomatch h⟩
  | env :: rest, ⟨hk, ⟨L, o, hf, hn, ho, hd⟩, hr⟩ => by
    obtain ⟨frs, h1, h2⟩ := frs_of hr
    refine ⟨(L, o) :: frs, ?_, ?_⟩
    · unfold frA; rw [List.filterMap_cons, hf]; show L :: frs.map (·.1) = _; rw [h1]
    · intro q hq
      rcases List.mem_cons.mp hq with rfl | hq
      · exact ho
      · exact h2 q hq
theorem Frs.now {b₀ h₁ h : Heap} {outer : List Env} {frs news : List (Addr × Obj)} {g : Heap} {L : Addr} {f : Addr → Array (Option Value)} (S : Frs b₀ outer h₁ frs) (N : News g L h news) (hs : ∀ p ∈ reSl f frs, p ∈ news) : h.FunFrames b₀ outer := by
  refine ff_of S.ff fun b hb o ho => ?_
  rw [← S.adr] at hb
  obtain ⟨q, hq, rfl⟩ := List.mem_map.mp hb
  have : q.2 = o := Option.some.inj ((S.has q hq).symm.trans ho)
  subst this
  exact ⟨f q.1, (N _ (hs (q.1, { q.2 with slots := f q.1 }) (List.mem_map.mpr ⟨q, hq, rfl⟩))).1⟩
theorem enterH {w : World} {b₀ : Heap} {hn : Option Value} {dp un : Nat} {gd : Option (List Code)} {outer : List Env} {s : Shared} {fps : List (Addr × Obj)}
    {R : Result → Shared → Prop} {name qual : Str} {params : Arguments} {body : List Stmt} {scope : Scope} {dV kV doc pm cdv ct oc : Value} {an od : Option Addr} {osl : Array (Option Value)} {f : Addr} {args : Args} {binds : List (Str × Value)}
    {Φ : Value → Heap → Prop}
    (G : Gd w b₀ outer s.heap (fps.map (·.1))) (hfp : ∀ q ∈ fps, s.heap.get? q.1 = some q.2)
    (ho : (hd.heap_39 w.params).lookup f = some ⟨oc, od, .func (fnOf name qual params body scope dV kV doc pm an cdv ct), osl⟩) (hcd : codeIn (hd.heap_39 w.params) cdv qual = true) (hroom : dp < recursionLimit)
    (hbind : BindsTo s (fnOf name qual params body scope dV kV doc pm an cdv ct) args binds) (hloc : ∀ y ∈ binds, scope.names.lookup y.1 = some .local)
    (h : ∀ p loose mean mg mb g L' h₁ frs fs, Frs b₀ outer s.heap frs → b₀.StaysIn g → Fr g L' h₁ (fun y => binds.reverse.lookup y) → News g L' h₁ (fps ++ reSl fs frs) → (hd.heap_39 w.params).In g → Top p loose mean mg mb g → (∀ q ∈ fps, q.1 < L') → (∀ q ∈ frs, q.1 < L') → (∀ q ∈ fps, ∀ r ∈ frs, q.1 ≠ r.1) → (∀ b o, s.heap.get? b = some o → b ∉ fps.map (·.1) → b ∉ frA outer → g.get? b = some o) →
      wpH (model PR w) ((Aw hn dp outer gd un).deeper (envOf qual scope L' f cdv)) (execs body (envOf qual scope L' f cdv))
        (fun fl s' => EndsF s g frs Φ (match fl with | .ret v => v | _ => .none) s')
        (fun _ _ => False)
        { s with heap := h₁, toks := s.toks + binds.length })
    (ret : ∀ v h' tk, ModF outer (fps.map (·.1)) s.heap h' → Φ v h' → R (.ok (.ret v)) { s with heap := h', toks := tk })
    (hco : scope.isCoroutine = false) (hgen : scope.isGenerator = false) (hk : scope.kind = .function)
    (hcell : ∀ x ∈ scope.names, x.2 ≠ .cell) :
    codeH (model PR w) (Aw hn dp outer gd un) (.call (.ref f) args) R s := by
  obtain ⟨X, ⟨p, loose, mean, mg, mb, T⟩, st, ff, ap⟩ := G
  obtain ⟨frs, hfa, hfh⟩ := frs_of ff
  have hfn : ∀ b ∈ frA outer, b₀.get? b = none := fun b hb => (ff.mem hb).1
  have nm : ∀ b o, b₀.get? b = some o → b ∉ fps.map (·.1) ++ frA outer := fun b o e q => by
    rcases List.mem_append.mp q with q | q
    · rw [(ap b q).1] at e; cases e
    · rw [hfn b q] at e; cases e
  have st' : b₀.StaysIn (hideAll s.heap (fps.map (·.1) ++ frA outer)) := fun b o e => hideAll_get _ (st b o e) (nm b o e)
  have X' := X.keeps st'
  have T' := T.keeps st'
  have Xs := X.keeps st
  refine h_function hroom (Xs _ _ ho) rfl hco hgen rfl (codeRec_of Xs hcd) (hbind _ _ _ _ ?_)
  refine wpAny_newFunctionEnv hcell hloc (fun h₁ hns hsb => ⟨(T.keeps st).nolimit.fresh _ hsb, h_func ?_⟩) hk
  have hk₁ : ∀ b o, s.heap.get? b = some o → h₁.get? b = some o := fun b o e => hsb.extBut b o (Nat.ne_of_lt (Heap.lt_size e)) (Heap.get?_push_of_some _ e)
  have hre : reSl (fun a => ((s.heap.get? a).getD default).slots) frs = frs := by
    unfold reSl
    conv => rhs; rw [← List.map_id frs]
    refine List.map_congr_left fun q hq => ?_
    show (q.1, { q.2 with slots := ((s.heap.get? q.1).getD default).slots }) = q
    rw [hfh q hq]; rfl
  refine wpH_mono (h p loose mean mg mb (hideAll s.heap (fps.map (·.1) ++ frA outer)) s.heap.objs.size h₁ frs (fun a => ((s.heap.get? a).getD default).slots) ⟨hfa, hfh, ff⟩ st' ⟨hns, fun b o e => hk₁ b o (of_hideAll _ e), Nat.le_of_eq (hideAll_size _ _)⟩ ?_ X' T'
    (fun q hq => Heap.lt_size (hfp q hq)) (fun q hq => Heap.lt_size (hfh q hq)) ?_ (fun b o e h1 h2 => hideAll_get _ e fun hm => (List.mem_append.mp hm).elim h1 h2)) (fun fl s' hl => ?_) fun _ _ y => y
  · rw [hre]
    intro q hq
    have hg : s.heap.get? q.1 = some q.2 ∧ q.1 ∈ fps.map (·.1) ++ frA outer := by
      rcases List.mem_append.mp hq with hq | hq
      · exact ⟨hfp q hq, List.mem_append_left _ (List.mem_map_of_mem hq)⟩
      · exact ⟨hfh q hq, List.mem_append_right _ (by rw [← hfa]; exact List.mem_map_of_mem hq)⟩
    exact ⟨hk₁ _ _ hg.1, Nat.ne_of_lt (Heap.lt_size hg.1), hideAll_none _ hg.2⟩
  · intro q hq r hr e
    have hm : r.1 ∈ frA outer := by rw [← hfa]; exact List.mem_map_of_mem hr
    obtain ⟨env, he, hfe⟩ := List.mem_filterMap.mp hm
    exact (ap q.1 (List.mem_map_of_mem hq)).2 env he (by rw [hfe, e])
  · obtain ⟨h', tk, rfl, sg, hfr, hΦ⟩ := hl.out
    refine ret _ _ _ ⟨fun b o e hb hc => sg b o (hideAll_get _ e (fun hm => ?_)), fun b hb o e => ?_⟩ hΦ
    · rcases List.mem_append.mp hm with hm | hm
      · exact hb hm
      · exact hc hm
    · rw [← hfa] at hb
      obtain ⟨q, hq, rfl⟩ := List.mem_map.mp hb
      have : q.2 = o := Option.some.inj ((hfh q hq).symm.trans e)
      subst this
      exact hfr q hq
theorem caughtHere {w : World} {b₀ h₁ : Heap} {dp un : Nat} {gd : Option (List Code)} {outer : List Env} {frs ex : List (Addr × Obj)} {f : Addr → Array (Option Value)} {g h : Heap} {L a e : Addr} {m mg mb : Str → Option Value} {p : Program} {loose : List Str} {s' : Shared}
    {name : Str} {scope : Scope} {cd : Value} {np pos : Pos} {c₀ : Stmt} {suite : List Stmt} {Q : Flow → Shared → Prop} {E : Value → Shared → Prop}
    (S : Frs b₀ outer h₁ frs) (st : b₀.StaysIn g) (F : Fr g L h m) (N : News g L h (ex ++ reSl f frs)) (hx : Heap.NewExc h s'.heap e "ValueError") (X : (hd.heap_39 w.params).In g) (T : TopRead p loose mg mb g)
    (hvn : nsIn (hd.heap_39 w.params) mainGlobals (Str.ofString "ValueError") = some none)
    (hexf : ∀ q ∈ ex, ∀ r ∈ frs, q.1 ≠ r.1)
    (k : ∀ h' f', Fr g L h' m → News g L h' (ex ++ reSl f' frs) →
      wpAny (model PR w) (((Aw none dp outer gd un).deeper (envOf name scope L a cd)).mark (some (.ref e))) (execs (c₀ :: suite) (envOf name scope L a cd)) Q E { s' with heap := h' })
    (hk : scope.kind = .function) (hxk : (envOf name scope L a cd).kindOf (Str.ofString "ValueError") = some .globalImplicit)
    (hE : PassesOwnAt (model PR w) (((Aw none dp outer gd un).deeper (envOf name scope L a cd)).mark (some (.ref e))) ((Aw none dp outer gd un).deeper (envOf name scope L a cd)) (envOf name scope L a cd) E) :
    wpAny (model PR w) ((Aw none dp outer gd un).deeper (envOf name scope L a cd)) (noteFrame (.ref e) (envOf name scope L a cd))
      (fun _ s₂ => wpAny (model PR w) ((Aw none dp outer gd un).deeper (envOf name scope L a cd)) (setFlight (.ref e) none) (fun _ s₃ =>
        wpAny (model PR w) ((Aw none dp outer gd un).deeper (envOf name scope L a cd)) (handleBy (.ref e) (envOf name scope L a cd) [.ExceptHandler (some (.Name (Str.ofString "ValueError") np)) none (c₀ :: suite) pos]) Q E s₃) E s₂) E s' := by
  have ffh : h.FunFrames b₀ outer := S.now N fun q hq => List.mem_append_right _ hq
  have hbL : b₀.get? L = none := by
    cases q : b₀.get? L with
    | none => rfl
    | some o => exact absurd (Nat.lt_of_lt_of_le (Heap.lt_size (st L o q)) F.above) (Nat.lt_irrefl _)
  have ffl : h.FunFrames b₀ (envOf name scope L a cd :: outer) := .cons (by show scope.kind ≠ .module; rw [hk]; decide) rfl F.ns hbL ffh
  have hin : ∀ env ∈ (envOf name scope L a cd :: outer), ∀ b, env.frame = some b → b ∈ frA (envOf name scope L a cd :: outer) := fun env he b hb => List.mem_filterMap.mpr ⟨env, he, hb⟩
  have hfl : frA (envOf name scope L a cd :: outer) = L :: frA outer := by unfold frA; rw [List.filterMap_cons]; rfl
  have notL : ∀ b o, g.get? b = some o → b ∉ frA (envOf name scope L a cd :: outer) := fun b o q hm => by
    rw [hfl] at hm
    rcases List.mem_cons.mp hm with rfl | hm
    · exact absurd (Nat.lt_of_lt_of_le (Heap.lt_size q) F.above) (Nat.lt_irrefl _)
    · rw [← S.adr] at hm
      obtain ⟨r, hr, rfl⟩ := List.mem_map.mp hm
      have := (N (r.1, { r.2 with slots := f r.1 }) (List.mem_append_right _ (List.mem_map.mpr ⟨r, hr, rfl⟩))).2.2
      rw [show g.get? r.1 = none from this] at q; cases q
  have gB : g.StaysIn (hideAll h (frA (envOf name scope L a cd :: outer))) := fun b o q => hideAll_get _ (F.keep b o q) (notL b o q)
  have exB : ∀ q ∈ ex, (hideAll h (frA (envOf name scope L a cd :: outer))).get? q.1 = some q.2 := fun q hq => hideAll_get _ (N q (List.mem_append_left _ hq)).1 fun hm => by
    rw [hfl] at hm
    rcases List.mem_cons.mp hm with hm | hm
    · exact (N q (List.mem_append_left _ hq)).2.1 hm
    · rw [← S.adr] at hm
      obtain ⟨r, hr, e⟩ := List.mem_map.mp hm
      exact hexf q hq r hr e.symm
  obtain ⟨ob, tp, he, hcls, hd⟩ := hx.there
  have hen : (hideAll h (frA (envOf name scope L a cd :: outer))).get? e = none := by
    cases q : (hideAll h (frA (envOf name scope L a cd :: outer))).get? e with
    | none => rfl
    | some o => have := of_hideAll _ q; rw [hx.new] at this; cases this
  have ffB := (funFrames_hide ffl hin).of_keeps (h' := s'.heap) fun b o hb _ => ⟨o, hx.keeps b o hb, rfl⟩
  have hfr : ((Aw none dp outer gd un).deeper (envOf name scope L a cd)).frames = some (envOf name scope L a cd :: outer) := rfl
  unfold noteFrame
  show wpAny _ _ (field (.ref e) 1 >>= _) _ _ _
  refine wpAny_bind (wpAny_field he hd (x := Value.none) rfl ?_)
  rw [if_neg (by decide)]
  refine wpAny_entryW hfr ffB rfl he (fun b o hb => hx.keeps b o (of_hideAll _ hb)) hen hd (by show 1 < 6; decide) rfl fun h₄ hN => ?_
  obtain ⟨k1, k2, k3, k4⟩ := hN
  refine wpAny_landsW ⟨k1, hen, k2, k3⟩ fun h₅ hheld hsm₅ => ?_
  have up₅ : h.UpToSlots h₅ := (Heap.UpToSlots.of_keeps hx.keeps).trans (Heap.UpToSlots.trans k4 hsm₅)
  have F₅ : Fr g L h₅ m := F.of_stays (fun b o q => hheld.1 b o (gB b o q)) up₅
  obtain ⟨ob', hob, hobc⟩ := hheld.there
  refine wpAny_handleBy_builtin (X := "ValueError") (T := "ValueError") (b := true) (by rw [isSubtype_type]; kernel_rfl) (by rw [isSubtype_type]; kernel_rfl) (by rw [isSubtype_type]; kernel_rfl)
    (ld_builtin_at F₅ T.g (mg_none_of X T.g hvn) T.b ((T.builtins (Str.ofString "ValueError") (by decide)).trans (show bootBuiltins (Str.ofString "ValueError") = some (.type "ValueError") by decide +kernel)) ⟨rfl, ⟨ob', hob, hobc.trans hcls⟩, ?_⟩ hk hxk (by decide))
  refine lands_againW hheld fun h₆ hfl₆ hsm₆ => ?_
  have up₆ := up₅.trans hsm₆
  have F₆ : Fr g L h₆ m := F.of_stays (fun b o q => hfl₆.1 b o (gB b o q)) up₆
  refine wpAny_passesOwnAt hE (k h₆ (fun a => ((h₆.get? a).getD default).slots) F₆ fun q hq => ?_)
  rcases List.mem_append.mp hq with hq | hq
  · exact ⟨hfl₆.1 _ _ (exB q hq), (N q (List.mem_append_left _ hq)).2⟩
  · obtain ⟨r, hr, rfl⟩ := List.mem_map.mp hq
    have z := N (r.1, { r.2 with slots := f r.1 }) (List.mem_append_right _ (List.mem_map.mpr ⟨r, hr, rfl⟩))
    obtain ⟨sl, hsl⟩ := up₆ _ _ z.1 (by
      obtain ⟨o, ho, hnf⟩ := (S.ff.mem (show r.1 ∈ frA outer by rw [← S.adr]; exact List.mem_map_of_mem hr)).2
      have : r.2 = o := Option.some.inj ((S.has r hr).symm.trans ho)
      subst this
      exact hnf)
    refine ⟨?_, z.2⟩
    show h₆.get? r.1 = some { r.2 with slots := ((h₆.get? r.1).getD default).slots }
    rw [hsl]; rfl
end Mine
end

section
open PySem PySem.W PySem.Calls PyProof.Rows
set_option maxRecDepth 100000
set_option linter.unusedVariables false
namespace Mine
section
variable {w : World} {A : Around} {E : Value → Shared → Prop} {s : Shared} {h₀ : Heap} {L D : Addr} {m : Str → Option Value} {news news' : List (Addr × Obj)} {n : Nat} {y : Value} {q : List Value}
theorem truthyCons {Q : Bool → Shared → Prop} (N : News h₀ L s.heap news) (hm : (D, listOf (y :: q).toArray n) ∈ news) (hz : q.length < 1000000) (h : Q true { s with toks := s.toks + 1 + 1 }) : wpAny (model PR w) A (truthy (.ref D)) Q E s :=
  wpAny_truthy_list (items := (y :: q).toArray) ⟨_, (N _ hm).1, rfl, n, rfl⟩ (by simp only [List.size_toArray, List.length_cons]; omega) (by simpa using h)
theorem truthyNil {Q : Bool → Shared → Prop} (N : News h₀ L s.heap news) (hm : (D, listOf ([] : List Value).toArray n) ∈ news) (h : Q false { s with toks := s.toks + 1 + 1 }) : wpAny (model PR w) A (truthy (.ref D)) Q E s :=
  wpAny_truthy_list (items := ([] : List Value).toArray) ⟨_, (N _ hm).1, rfl, n, rfl⟩ (by simp) (by simpa using h)
theorem popFirst {u : Tok} {Q : Value → Shared → Prop} (F : Fr h₀ L s.heap m) (N : News h₀ L s.heap news) (U : Upd D (listOf (y :: q).toArray n) (listOf q.toArray (n + 1)) news news') (hz : q.length < 1000000)
    (h : ∀ h', Fr h₀ L h' m → News h₀ L h' news' → Q y { s with heap := h' }) : wpAny (model PR w) A (call (.builtin "list.pop") [.ref D, .int 0 u]) Q E s :=
  kl_popAt (p := []) (q := q) (k := 0) F N rfl (by simp [seqIndex?]) rfl U (by simp [sizeLine]; omega) h
end
end Mine
namespace Mine
section
variable {w : World} {A : Around} {E : Value → Shared → Prop} {s : Shared} {h₀ : Heap} {L D B : Addr} {m : Str → Option Value} {news news' : List (Addr × Obj)} {n k : Nat} {its ys : List Value}
theorem extTup {Q : Value → Shared → Prop} (F : Fr h₀ L s.heap m) (N : News h₀ L s.heap news) (hm : (B, ({ cls := .type "tuple", data := .seq ys.toArray k } : Obj)) ∈ news) (U : Upd D (listOf its.toArray n) (listOf (its ++ ys).toArray (n + 1)) news news') (hy : 0 < ys.length) (hz : its.length + ys.length ≤ 1000000)
    (h : ∀ h', Fr h₀ L h' m → News h₀ L h' news' → Q .none { s with heap := h' }) : wpAny (model PR w) A (call (.builtin "list.extend") [.ref D, .ref B]) Q E s := by
  obtain ⟨pre, post, rfl, rfl, a, b⟩ := U.split
  have z := N (D, listOf its.toArray n) (List.mem_append.mpr (.inr (.head _)))
  have zB := N _ hm
  have hsz : its.toArray.size + ys.toArray.size ≤ 1000000 := by simpa using hz
  refine call_meets PySem.F.slot_list_extend ⟨_, z.1, rfl⟩ PySem.F.entry_list_extend (PySem.F.args_list_extend_2 _ _) (PySem.AutoSeq1.list_extend_list_tuple_0 D its.toArray n B ys.toArray k ?_ ?_ ?_) ⟨z.1, zB.1, h _ (F.change (Heap.SameBut.update ..) z.2.1 z.2.2) (kl_turn _ N a b ?_ ?_)⟩
  · have hq : sizeLine = 16777216 := rfl
    simp [Builtin.List.listTooLong]; omega
  · simp only [sizeLine]; omega
  · simp only [sizeLine]; omega
  · simp
  · rw [List.size_toArray, List.size_toArray, List.length_append]; omega
end
end Mine
end

section
open PySem PySem.W PySem.Calls PyProof.Rows
set_option maxRecDepth 100000
set_option maxHeartbeats 4000000
namespace Mine
abbrev S (x : String) : Str := Str.ofString x
/-- the dict of a lexer -/
abbrev lexD (w : World) (t1 t2 t3 t4 : Tok) (ln : Int) (lt : Tok) (st : Value) (wt : Tok) (pb : Addr) : List DictEntry :=
  [⟨PyData.keyHash w.params (Str.ofString "lineno"), .str (Str.ofString "lineno") t1, .int ln lt⟩, ⟨PyData.keyHash w.params (Str.ofString "instream"), .str (Str.ofString "instream") t2, st⟩,
   ⟨PyData.keyHash w.params (Str.ofString "whitespace"), .str (Str.ofString "whitespace") t3, .str (Str.ofString "\n\t\r ") wt⟩, ⟨PyData.keyHash w.params (Str.ofString "pushback"), .str (Str.ofString "pushback") t4, .ref pb⟩]
theorem push_c {w : World} {b₀ : Heap} {hn : Option Value} {dp un : Nat} {gd : Option (List Code)} {outer : List Env} {s : Shared} {R : Result → Shared → Prop}
    {lx dx pb : Addr} {t1 t2 t3 t4 : Tok} {ln : Int} {lt : Tok} {st : Value} {wt : Tok} {xs : Array Value} {n : Nat} {v : Value}
    (G : Gd w b₀ outer s.heap [lx, dx, pb]) (h1 : s.heap.get? lx = some (instObj 69 dx)) (h2 : s.heap.get? dx = some (dictOf (lexD w t1 t2 t3 t4 ln lt st wt pb) 4)) (h3 : s.heap.get? pb = some (listOf xs n))
    (n1 : lx ≠ dx) (n2 : lx ≠ pb) (n3 : dx ≠ pb) (hz : xs.size < 1000) (hdp : dp + 10 < recursionLimit) (hun : un + 100 < cLine)
    (ret : ∀ h' tk, Mod [lx, dx, pb] s.heap h' → h'.get? lx = some (instObj 69 dx) → h'.get? dx = some (dictOf (lexD w t1 t2 t3 t4 ln lt st wt pb) 4) → h'.get? pb = some (listOf (xs.push v) (n + 1)) → R (.ok (.ret .none)) { s with heap := h', toks := tk }) :
    codeAny (model PR w) (Aw hn dp outer gd un) (.call (.ref 66) ⟨[.ref lx, v], []⟩) R s := by
  refine' enter (fps := [(lx, instObj 69 dx), (dx, dictOf (lexD w t1 t2 t3 t4 ln lt st wt pb) 4), (pb, listOf xs n)]) (Φ := fun v' h' => v' = .none ∧ h'.get? lx = some (instObj 69 dx) ∧ h'.get? dx = some (dictOf (lexD w t1 t2 t3 t4 ln lt st wt pb) 4) ∧ h'.get? pb = some (listOf (xs.push v) (n + 1))) G ?hfp ?ho ?hcd ?hr ?hb ?hl ?body ?ret ?c1 ?c2 ?c3 ?c4
  case ho => k_dflt k_is
  case hcd => k_dflt k_is
  case hr => omega
  case hb => exact BindsTo.of_eq rfl
  case hl => exact locs rfl
  case c1 => rfl
  case c2 => rfl
  case c3 => rfl
  case c4 => decide
  · intro q hq; simp only [List.mem_cons, List.not_mem_nil, or_false] at hq; rcases hq with rfl | rfl | rfl <;> assumption
  · intro p loose mean mg mb g L' h₁ F N B X T l1
    k_lt l1
    try dsimp only
    k_steps
    exact Ends.of (by assumption) ⟨rfl, News.get (by assumption) (by k_mem), News.get (by assumption) (by k_mem), News.get (by assumption) (by k_mem)⟩
  · rintro v' h' tk hm ⟨rfl, a, b, c⟩
    exact ret h' tk hm a b c
end Mine
end

section
open PySem PySem.W PySem.Calls PyProof.Rows
set_option maxRecDepth 100000
set_option maxHeartbeats 4000000
set_option linter.unusedVariables false
namespace Mine
local macro_rules | `(tactic| walk_at "truthy ref") => `(tactic| (k_here; k_dflt (first | (refine truthyCons (by k_asm) (by k_mem) (by omega) ?_; k_whole) | (refine truthyNil (by k_asm) (by k_mem) ?_; k_whole))))
local macro_rules | `(tactic| walk_at "call builtin:list.pop") => `(tactic| (k_here; k_dflt ((with_reducible show wpAny _ _ (call (Value.builtin _) [Value.ref _, Value.int 0 _]) _ _ _); refine popFirst (by k_asm) (by k_asm) (by k_upd) (by omega) ?_); (intro h' F' N')))
theorem get_pop {w : World} {b₀ : Heap} {hn : Option Value} {dp un : Nat} {gd : Option (List Code)} {outer : List Env} {s : Shared} {R : Result → Shared → Prop}
    {lx dx pb : Addr} {t1 t2 t3 t4 : Tok} {ln : Int} {lt : Tok} {st : Value} {wt : Tok} {xs : List Value} {n : Nat} {v : Value}
    (G : Gd w b₀ outer s.heap [lx, dx, pb]) (h1 : s.heap.get? lx = some (instObj 69 dx)) (h2 : s.heap.get? dx = some (dictOf (lexD w t1 t2 t3 t4 ln lt st wt pb) 4)) (h3 : s.heap.get? pb = some (listOf (v :: xs).toArray n))
    (n1 : lx ≠ dx) (n2 : lx ≠ pb) (n3 : dx ≠ pb) (hz : xs.length < 1000) (hdp : dp + 10 < recursionLimit) (hun : un + 100 < cLine)
    (ret : ∀ h' tk, Mod [lx, dx, pb] s.heap h' → h'.get? lx = some (instObj 69 dx) → h'.get? dx = some (dictOf (lexD w t1 t2 t3 t4 ln lt st wt pb) 4) → h'.get? pb = some (listOf xs.toArray (n + 1)) → R (.ok (.ret v)) { s with heap := h', toks := tk }) :
    codeAny (model PR w) (Aw hn dp outer gd un) (.call (.ref 59) ⟨[.ref lx], []⟩) R s := by
  refine' enter (binds := [(S "self", .ref lx)]) (fps := [(lx, instObj 69 dx), (dx, dictOf (lexD w t1 t2 t3 t4 ln lt st wt pb) 4), (pb, listOf (v :: xs).toArray n)]) (Φ := fun v' h' => v' = v ∧ h'.get? lx = some (instObj 69 dx) ∧ h'.get? dx = some (dictOf (lexD w t1 t2 t3 t4 ln lt st wt pb) 4) ∧ h'.get? pb = some (listOf xs.toArray (n + 1))) G ?hfp ?ho ?hcd ?hr ?hb ?hl ?body ?ret ?c1 ?c2 ?c3 ?c4
  case ho => k_dflt k_is
  case hcd => k_dflt k_is
  case hr => omega
  case hb => exact BindsTo.of_eq rfl
  case hl => exact locs rfl
  case c1 => rfl
  case c2 => rfl
  case c3 => rfl
  case c4 => decide
  · intro q hq; simp only [List.mem_cons, List.not_mem_nil, or_false] at hq; rcases hq with rfl | rfl | rfl <;> assumption
  · intro p loose mean mg mb g L' h₁ F N B X T l1
    k_lt l1
    try dsimp only
    k_steps
    exact Ends.of (by assumption) ⟨rfl, News.get (by assumption) (by k_mem), News.get (by assumption) (by k_mem), News.get (by assumption) (by k_mem)⟩
  · rintro v' h' tk hm ⟨rfl, a, b, c⟩
    exact ret h' tk hm a b c
end Mine
end

section
open PySem PySem.W PySem.Calls
set_option maxRecDepth 100000
namespace Mine
open PySem.Sre
def code1 : Array Nat := #[14, 4, 0, 1, 4294967295, 17, 0, 7, 14, 24, 10, 1, 4294967295, 13, 5, 22, 48, 57, 0, 1, 15, 17, 15, 13, 11, 9, 0, 26624, 2147483648, 0, 0, 0, 0, 0, 0, 15, 2, 0, 17, 1, 1]
def isDig (c : Nat) : Bool := decide (48 ≤ c) && decide (c ≤ 57)
def isSep (c : Nat) : Bool := c == 46 || c == 95 || c == 43 || c == 45
/-- the machine when an attempt at s begins -/
def mAt (text : Array Nat) (s : Nat) (ma mu : Bool) (x y : Option Nat) (z : Seen) : M :=
  { code := code1, text := text, lim := text.size, start := s, lastStart := text.size, wholeText := false, mustAdvance := mu, pc := 5, pos := s, handed := s, outermost := ma,
    marks := #[x, y], lastmark := -1, lastindex := -1, loops := #[], inner := none, frames := [{ wait := .nextStart, pc := 5, pos := s, outermost := ma }], weight := 1, answer := none, seen := z, outcome := none }
def kp : Sre.Kept := { lastmark := 0, lastindex := -1, whole := false, marks := #[] }
def m2 (text : Array Nat) (s : Nat) (ma mu : Bool) (y : Option Nat) (z : Seen) : M :=
  { code := code1, text := text, lim := text.size, start := s, lastStart := text.size, wholeText := false, mustAdvance := mu, pc := 9, pos := s, handed := s, outermost := ma,
    marks := #[some s, y], lastmark := 0, lastindex := -1, loops := #[], inner := none,
    frames := [{ wait := .nextBranch, pc := 8, pos := s, outermost := ma, kept := kp }, { wait := .nextStart, pc := 5, pos := s, outermost := ma }], weight := 2, answer := none, seen := z, outcome := none }
theorem step12 (text : Array Nat) (s : Nat) (ma mu : Bool) (x y : Option Nat) (z : Seen) : ∃ z', M.runFor 2 (mAt text s ma mu x y z) = m2 text s ma mu y z' := ⟨_, rfl⟩
theorem rep_fail (text : Array Nat) (s : Nat) (ma mu : Bool) (y : Option Nat) (z : Seen) (h : text.size ≤ s) : ∃ z', M.runFor 1 (m2 text s ma mu y z) = { m2 text s ma mu y z' with answer := some false } := by
  have e : ((1 : Nat) : Int) > ((text.size : Int) - (s : Int)) := by omega
  refine ⟨?_, ?_⟩
  rotate_left
  · show M.exec (m2 text s ma mu y z) = _
    unfold M.exec
    show (if ((1 : Nat) : Int) > ((text.size : Int) - (s : Int)) then _ else _) = _
    rw [if_pos e]
    rfl
def m3 (text : Array Nat) (s : Nat) (ma mu : Bool) (y : Option Nat) (z : Seen) : M :=
  { code := code1, text := text, lim := text.size, start := s, lastStart := text.size, wholeText := false, mustAdvance := mu, pc := 23, pos := s, handed := s, outermost := ma,
    marks := #[some s, y], lastmark := 0, lastindex := -1, loops := #[], inner := none,
    frames := [{ wait := .nextBranch, pc := 22, pos := s, outermost := ma, kept := kp }, { wait := .nextStart, pc := 5, pos := s, outermost := ma }], weight := 2, answer := none, seen := z, outcome := none }
theorem step4 (text : Array Nat) (s : Nat) (ma mu : Bool) (y : Option Nat) (z : Seen) : M.runFor 1 { m2 text s ma mu y z with answer := some false } = m3 text s ma mu y z := rfl
theorem dig_set (c : Nat) (z : Seen) : ∃ z', accepts code1 13 c z = .ok (isDig c, z') := by
  refine ⟨if isDig c then z.add 22 else (z.add 22).add 0, ?_⟩
  show (if (decide (48 ≤ c) && decide (c ≤ 57)) = true then (Except.ok (true, z.add 22) : Except String (Bool × Seen)) else .ok (false, (z.add 22).add 0)) = _
  unfold isDig
  split <;> rename_i h
  · rw [h]
  · rw [Bool.not_eq_true] at h; rw [h]
theorem sep_bits (c : Nat) : (decide (c < 256) && (code1.getD (25 + (1 + c / 32)) 0).testBit (c % 32)) = isSep c := by
  by_cases h : c < 256
  · have : ∀ d : Fin 256, (decide (d.val < 256) && (code1.getD (25 + (1 + d.val / 32)) 0).testBit (d.val % 32)) = isSep d.val := by decide +kernel
    exact this ⟨c, h⟩
  · rw [decide_eq_false h]
    unfold isSep
    have h1 : (c == 46) = false := by simp; omega
    have h2 : (c == 95) = false := by simp; omega
    have h3 : (c == 43) = false := by simp; omega
    have h4 : (c == 45) = false := by simp; omega
    rw [h1, h2, h3, h4]; rfl
theorem sep_set (c : Nat) (z : Seen) : ∃ z', accepts code1 23 c z = .ok (isSep c, z') := by
  refine ⟨if isSep c then z.add 9 else (z.add 9).add 0, ?_⟩
  have e := sep_bits c
  show (if (decide (c < 256) && (code1.getD (25 + (1 + c / 32)) 0).testBit (c % 32)) = true then (Except.ok (true, z.add 9) : Except String (Bool × Seen)) else .ok (false, (z.add 9).add 0)) = _
  rw [e]
  split <;> rename_i h
  · rw [h]
  · rw [Bool.not_eq_true] at h; rw [h]
/-- the run of digits -/
def dRun (text : Array Nat) : Nat → Nat → Nat
  | 0, _ => 0
  | n + 1, p => if isDig (text.getD p 0) then dRun text n (p + 1) + 1 else 0
theorem run_is (text : Array Nat) : ∀ (n p found : Nat) (z : Seen), ∃ z', Sre.run code1 text 13 n p found z = .ok (found + dRun text n p, z')
  | 0, p, found, z => ⟨z, rfl⟩
  | n + 1, p, found, z => by
    obtain ⟨z₁, e₁⟩ := dig_set (text.getD p 0) z
    unfold Sre.run dRun
    rw [e₁]
    show ∃ z', (if isDig (text.getD p 0) = true then Sre.run code1 text 13 n (p + 1) (found + 1) z₁ else pure (found, z₁)) = _
    cases h : isDig (text.getD p 0) with
    | true =>
      obtain ⟨z₂, e₂⟩ := run_is text n (p + 1) (found + 1) z₁
      refine ⟨z₂, ?_⟩
      rw [if_pos rfl, if_pos rfl, e₂]
      congr 2; omega
    | false => exact ⟨z₁, rfl⟩
theorem runFor_add (a b : Nat) (m : M) : M.runFor (a + b) m = M.runFor b (M.runFor a m) := by
  induction a generalizing m with
  | zero => rw [Nat.zero_add]; rfl
  | succ a ih =>
    rw [Nat.add_right_comm]
    show (if m.outcome.isSome then m else M.runFor (a + b) m.step) = M.runFor b (if m.outcome.isSome then m else M.runFor a m.step)
    split
    · rename_i h
      cases b with
      | zero => rfl
      | succ b => show m = if m.outcome.isSome then m else _; rw [if_pos h]
    · exact ih _
theorem rep_none (text : Array Nat) (s : Nat) (ma mu : Bool) (y : Option Nat) (z : Seen) (hd : isDig (text.getD s 0) = false) : ∃ z', M.runFor 1 (m2 text s ma mu y z) = { m2 text s ma mu y z' with answer := some false } := by
  by_cases h : text.size ≤ s
  · exact rep_fail text s ma mu y z h
  · have e : ¬ ((1 : Nat) : Int) > ((text.size : Int) - (s : Int)) := by omega
    obtain ⟨k, hk⟩ : ∃ k, min 4294967295 ((text.size : Int) - (s : Int)).toNat = k + 1 := ⟨min 4294967295 ((text.size : Int) - (s : Int)).toNat - 1, by omega⟩
    obtain ⟨z₁, e₁⟩ := run_is text (k + 1) s 0 ((z.add 24).add 13)
    have e₂ : dRun text (k + 1) s = 0 := by unfold dRun; rw [hd]; rfl
    rw [e₂] at e₁
    refine ⟨z₁, ?_⟩
    show M.exec (m2 text s ma mu y z) = _
    unfold M.exec
    show (if ((1 : Nat) : Int) > ((text.size : Int) - (s : Int)) then _ else match Sre.run code1 text 13 (min 4294967295 ((text.size : Int) - (s : Int)).toNat) s 0 ((z.add 24).add 13) with | .error why => _ | .ok (n, seen) => _) = _
    rw [if_neg e, hk, e₁]
    rfl
theorem in_none (text : Array Nat) (s : Nat) (ma mu : Bool) (y : Option Nat) (z : Seen) (hs : s < text.size → isSep (text.getD s 0) = false) : ∃ z', M.runFor 1 (m3 text s ma mu y z) = { m3 text s ma mu y z' with answer := some false } := by
  by_cases h : text.size ≤ s
  · refine ⟨z.add 13, ?_⟩
    show M.exec (m3 text s ma mu y z) = _
    unfold M.exec
    show (if s ≥ text.size then _ else _) = _
    rw [if_pos h]; rfl
  · obtain ⟨z₁, e₁⟩ := sep_set (text.getD s 0) (z.add 13)
    rw [hs (by omega)] at e₁
    refine ⟨z₁, ?_⟩
    show M.exec (m3 text s ma mu y z) = _
    unfold M.exec
    show (if s ≥ text.size then _ else match accepts code1 23 (text.getD s 0) (z.add 13) with | .error why => _ | .ok (false, seen) => _ | .ok (true, seen) => _) = _
    rw [if_neg h, e₁]; rfl
def m4 (text : Array Nat) (s : Nat) (ma mu : Bool) (y : Option Nat) (z : Seen) : M :=
  { code := code1, text := text, lim := text.size, start := s, lastStart := text.size, wholeText := false, mustAdvance := mu, pc := 22, pos := s, handed := s, outermost := ma,
    marks := #[some s, y], lastmark := 0, lastindex := -1, loops := #[], inner := none,
    frames := [{ wait := .nextStart, pc := 5, pos := s, outermost := ma }], weight := 1, answer := some false, seen := z, outcome := none }
theorem step6 (text : Array Nat) (s : Nat) (ma mu : Bool) (y : Option Nat) (z : Seen) : M.runFor 1 { m3 text s ma mu y z with answer := some false } = m4 text s ma mu y z := rfl
theorem step7 (text : Array Nat) (s : Nat) (ma mu : Bool) (y : Option Nat) (z : Seen) (h : s < text.size) : M.runFor 1 (m4 text s ma mu y z) = mAt text (s + 1) false false (some s) y z := by
  show (if s < text.size then _ else _) = _
  rw [if_pos h]; rfl
theorem step7' (text : Array Nat) (s : Nat) (ma mu : Bool) (y : Option Nat) (z : Seen) (h : text.size ≤ s) : (M.runFor 2 (m4 text s ma mu y z)).outcome = some .failed := by
  rw [show (2 : Nat) = 1 + 1 from rfl, runFor_add]
  have : M.runFor 1 (m4 text s ma mu y z) = (if s < text.size then _ else _) := rfl
  rw [this, if_neg (Nat.not_lt.mpr h)]; rfl
theorem other (text : Array Nat) (s : Nat) (ma mu : Bool) (x y : Option Nat) (z : Seen) (h : s < text.size) (hd : isDig (text.getD s 0) = false) (hs : isSep (text.getD s 0) = false) :
    ∃ z', M.runFor 7 (mAt text s ma mu x y z) = mAt text (s + 1) false false (some s) y z' := by
  obtain ⟨z1, e1⟩ := step12 text s ma mu x y z
  obtain ⟨z2, e2⟩ := rep_none text s ma mu y z1 hd
  obtain ⟨z3, e3⟩ := in_none text s ma mu y z2 (fun _ => hs)
  refine ⟨z3, ?_⟩
  rw [show (7 : Nat) = 2 + (1 + (1 + (1 + (1 + 1)))) from rfl, runFor_add, e1, runFor_add, e2, runFor_add, step4, runFor_add, e3, runFor_add, step6, step7 _ _ _ _ _ _ h]
theorem at_end (text : Array Nat) (s : Nat) (ma mu : Bool) (x y : Option Nat) (z : Seen) (h : text.size ≤ s) : (M.runFor 8 (mAt text s ma mu x y z)).outcome = some .failed := by
  obtain ⟨z1, e1⟩ := step12 text s ma mu x y z
  obtain ⟨z2, e2⟩ := rep_fail text s ma mu y z1 h
  obtain ⟨z3, e3⟩ := in_none text s ma mu y z2 (fun q => absurd q (Nat.not_lt.mpr h))
  rw [show (8 : Nat) = 2 + (1 + (1 + (1 + (1 + 2)))) from rfl, runFor_add, e1, runFor_add, e2, runFor_add, step4, runFor_add, e3, runFor_add, step6, step7' _ _ _ _ _ _ h]
structure Hit (m : M) (a b : Nat) : Prop where
  outcome : m.outcome = some .matched
  start : m.start = a
  handed : m.handed = b
  lastmark : m.lastmark = 1
  marks : m.marks = #[some a, some b]
abbrev mm (text : Array Nat) (s : Nat) (pc pos hd : Nat) (ma : Bool) (mk : Array (Option Nat)) (lm li : Int) (fr : List Sre.Frame) (wt : Nat) (an : Option Bool) (z : Seen) (oc : Option Sre.Outcome) : M :=
  { code := code1, text := text, lim := text.size, start := s, lastStart := text.size, wholeText := false, mustAdvance := false, pc := pc, pos := pos, handed := hd, outermost := ma,
    marks := mk, lastmark := lm, lastindex := li, loops := #[], inner := none, frames := fr, weight := wt, answer := an, seen := z, outcome := oc }
abbrev fS (s : Nat) (ma : Bool) : Sre.Frame := { wait := .nextStart, pc := 5, pos := s, outermost := ma }
abbrev fB (pc s : Nat) (ma : Bool) : Sre.Frame := { wait := .nextBranch, pc := pc, pos := s, outermost := ma, kept := kp }
abbrev fG (p : Nat) (ma : Bool) (n : Int) : Sre.Frame := { wait := .giveBack, pc := 9, pos := p, outermost := ma, count := n, kept := kp }
section
variable (text : Array Nat) (s p hd wt : Nat) (ma : Bool) (y : Option Nat) (z : Seen) (fr : List Sre.Frame)
theorem jump35 : ∃ z', M.runFor 1 (mm text s 35 p hd ma #[some s, y] 0 (-1) fr wt none z none) = mm text s 38 p hd ma #[some s, y] 0 (-1) fr wt none z' none := ⟨_, rfl⟩
theorem jump20 : ∃ z', M.runFor 1 (mm text s 20 p hd ma #[some s, y] 0 (-1) fr wt none z none) = mm text s 38 p hd ma #[some s, y] 0 (-1) fr wt none z' none := ⟨_, rfl⟩
theorem mark38 : ∃ z', M.runFor 1 (mm text s 38 p hd ma #[some s, y] 0 (-1) fr wt none z none) = mm text s 40 p hd ma #[some s, some p] 1 1 fr wt none z' none := ⟨z.add 17, by with_unfolding_all rfl⟩
theorem succ40 : ∃ z', M.runFor 1 (mm text s 40 p hd ma #[some s, some p] 1 1 fr wt none z none) = mm text s 40 p p ma #[some s, some p] 1 1 fr wt (some true) z' none := by
  cases ma <;> exact ⟨_, rfl⟩
theorem popG (mk : Array (Option Nat)) (pc q : Nat) (n : Int) (b : Bool) : M.runFor 1 (mm text s pc p hd ma mk 1 1 (fG q b n :: fr) (wt + 1) (some true) z none) = mm text s 9 q hd b mk 1 1 fr wt (some true) z none := rfl
theorem popB (mk : Array (Option Nat)) (pc q k : Nat) (b : Bool) : M.runFor 1 (mm text s pc p hd ma mk 1 1 (fB k q b :: fr) (wt + 1) (some true) z none) = mm text s k q hd b mk 1 1 fr wt (some true) z none := rfl
theorem popS (mk : Array (Option Nat)) (pc q : Nat) (b : Bool) : M.runFor 1 (mm text s pc p hd ma mk 1 1 (fS q b :: fr) (wt + 1) (some true) z none) = mm text s 5 q hd b mk 1 1 fr wt (some true) z none := rfl
theorem popE (mk : Array (Option Nat)) (pc : Nat) : M.runFor 1 (mm text s pc p hd ma mk 1 1 [] wt (some true) z none) = mm text s pc p hd ma mk 1 1 [] wt (some true) z (some .matched) := rfl
end
theorem hit_sep (text : Array Nat) (s : Nat) (ma : Bool) (x y : Option Nat) (z : Seen) (h : s < text.size) (hd : isDig (text.getD s 0) = false) (hs : isSep (text.getD s 0) = true) :
    Hit (M.runFor 11 (mAt text s ma false x y z)) s (s + 1) := by
  obtain ⟨z1, e1⟩ := step12 text s ma false x y z
  obtain ⟨z2, e2⟩ := rep_none text s ma false y z1 hd
  obtain ⟨z₁, e₁⟩ := sep_set (text.getD s 0) (z2.add 13)
  rw [hs] at e₁
  have e3 : M.runFor 1 (m3 text s ma false y z2) = mm text s 35 (s + 1) s ma #[some s, y] 0 (-1) [fB 22 s ma, fS s ma] 2 none z₁ none := by
    show M.exec (m3 text s ma false y z2) = _
    unfold M.exec
    show (if s ≥ text.size then _ else match accepts code1 23 (text.getD s 0) (z2.add 13) with | .error why => _ | .ok (false, seen) => _ | .ok (true, seen) => _) = _
    rw [if_neg (Nat.not_le.mpr h), e₁]; rfl
  obtain ⟨z4, e4⟩ := jump35 text s (s + 1) s 2 ma y z₁ [fB 22 s ma, fS s ma]
  obtain ⟨z5, e5⟩ := mark38 text s (s + 1) s 2 ma y z4 [fB 22 s ma, fS s ma]
  obtain ⟨z6, e6⟩ := succ40 text s (s + 1) s 2 ma z5 [fB 22 s ma, fS s ma]
  rw [show (11 : Nat) = 2 + (1 + (1 + (1 + (1 + (1 + (1 + (1 + (1 + 1)))))))) from rfl, runFor_add, e1, runFor_add, e2, runFor_add, step4, runFor_add, e3, runFor_add, e4, runFor_add, e5, runFor_add, e6, runFor_add, popB, runFor_add, popS, popE]
  exact ⟨rfl, rfl, rfl, rfl, rfl⟩
theorem hit_dig (text : Array Nat) (s n : Nat) (ma : Bool) (x y : Option Nat) (z : Seen) (h : s < text.size) (hsz : text.size < 4294967295) (hn : dRun text (text.size - s) s = n + 1) :
    Hit (M.runFor 10 (mAt text s ma false x y z)) s (s + (n + 1)) := by
  obtain ⟨z1, e1⟩ := step12 text s ma false x y z
  have e : ¬ ((1 : Nat) : Int) > ((text.size : Int) - (s : Int)) := by omega
  have hk : min 4294967295 ((text.size : Int) - (s : Int)).toNat = text.size - s := by omega
  obtain ⟨z₁, e₁⟩ := run_is text (text.size - s) s 0 ((z1.add 24).add 13)
  rw [hn, Nat.zero_add] at e₁
  have e2 : M.runFor 1 (m2 text s ma false y z1) = mm text s 20 (s + (n + 1)) (s + (n + 1)) ma #[some s, y] 0 (-1) [fG (s + (n + 1)) ma ((n + 1 : Nat) : Int), fB 8 s ma, fS s ma] 3 none z₁ none := by
    show M.exec (m2 text s ma false y z1) = _
    unfold M.exec
    show (if ((1 : Nat) : Int) > ((text.size : Int) - (s : Int)) then _ else match Sre.run code1 text 13 (min 4294967295 ((text.size : Int) - (s : Int)).toNat) s 0 ((z1.add 24).add 13) with | .error why => _ | .ok (n, seen) => _) = _
    rw [if_neg e, hk, e₁]
    show (if n + 1 < 1 then _ else _) = _
    rw [if_neg (by omega)]
    rfl
  obtain ⟨z4, e4⟩ := jump20 text s (s + (n + 1)) (s + (n + 1)) 3 ma y z₁ [fG (s + (n + 1)) ma ((n + 1 : Nat) : Int), fB 8 s ma, fS s ma]
  obtain ⟨z5, e5⟩ := mark38 text s (s + (n + 1)) (s + (n + 1)) 3 ma y z4 [fG (s + (n + 1)) ma ((n + 1 : Nat) : Int), fB 8 s ma, fS s ma]
  obtain ⟨z6, e6⟩ := succ40 text s (s + (n + 1)) (s + (n + 1)) 3 ma z5 [fG (s + (n + 1)) ma ((n + 1 : Nat) : Int), fB 8 s ma, fS s ma]
  rw [show (10 : Nat) = 2 + (1 + (1 + (1 + (1 + (1 + (1 + (1 + 1))))))) from rfl, runFor_add, e1, runFor_add, e2, runFor_add, e4, runFor_add, e5, runFor_add, e6, runFor_add, popG, runFor_add, popB, runFor_add, popS, popE]
  exact ⟨rfl, rfl, rfl, rfl, rfl⟩
end Mine
end

section
open PySem PySem.W PySem.Calls
set_option maxRecDepth 100000
namespace Mine
open PySem.Sre PySem.Builtin.Re
def plainC (c : Nat) : Prop := isDig c = false ∧ isSep c = false
/-- what a match takes -/
def HitW (ht rest : List Nat) : Prop := (∃ c, ht = [c] ∧ isSep c = true) ∨ (ht ≠ [] ∧ (∀ c ∈ ht, isDig c = true) ∧ ∀ c, rest.head? = some c → isDig c = false)
theorem sep_notdig {c : Nat} (h : isSep c = true) : isDig c = false := by
  unfold isSep at h; unfold isDig
  simp only [Bool.or_eq_true, beq_iff_eq] at h
  rcases h with ((h | h) | h) | h <;> subst h <;> rfl
theorem getD_at {text : Array Nat} {pre l : List Nat} {c : Nat} (e : text.toList = pre ++ c :: l) : text.getD pre.length 0 = c := by
  have : text[pre.length]? = some c := by rw [← Array.getElem?_toList, e]; simp
  rw [Array.getD_eq_getD_getElem?, this]; rfl
theorem size_of {text : Array Nat} {l : List Nat} (e : text.toList = l) : text.size = l.length := by rw [← e, Array.length_toList]
theorem dRun_is {text : Array Nat} : ∀ (ds pre rest : List Nat), text.toList = pre ++ (ds ++ rest) → (∀ c ∈ ds, isDig c = true) → (∀ c, rest.head? = some c → isDig c = false) → dRun text (text.size - pre.length) pre.length = ds.length
  | [], pre, rest, e, _, hr => by
    have hs := size_of e
    cases rest with
    | nil => rw [show text.size - pre.length = 0 from by simp at hs; omega]; rfl
    | cons c l =>
      obtain ⟨k, hk⟩ : ∃ k, text.size - pre.length = k + 1 := ⟨text.size - pre.length - 1, by simp at hs; omega⟩
      rw [hk]; unfold dRun; rw [getD_at (l := l) (by simpa using e), hr c rfl]; rfl
  | d :: ds, pre, rest, e, hd, hr => by
    have hs := size_of e
    obtain ⟨k, hk⟩ : ∃ k, text.size - pre.length = k + 1 := ⟨text.size - pre.length - 1, by simp at hs; omega⟩
    have ih := dRun_is ds (pre ++ [d]) rest (by simpa using e) (fun c hc => hd c (.tail _ hc)) hr
    rw [hk]; unfold dRun
    rw [getD_at (l := ds ++ rest) (by simpa using e), hd d (.head _), if_pos rfl]
    rw [List.length_append, List.length_singleton, show text.size - (pre.length + 1) = k from by omega] at ih
    rw [ih]; rfl
theorem search_hit {text : Array Nat} (hsz : text.size < 4294967295) {ht rest : List Nat} (hw : HitW ht rest) : ∀ (sk pre : List Nat), text.toList = pre ++ (sk ++ (ht ++ rest)) → (∀ c ∈ sk, plainC c) → ∀ ma x y z,
    ∃ k, k ≤ 7 * sk.length + 11 ∧ Hit (M.runFor k (mAt text pre.length ma false x y z)) (pre.length + sk.length) (pre.length + sk.length + ht.length)
  | [], pre, e, _, ma, x, y, z => by
    have hs := size_of e
    rcases hw with ⟨c, rfl, hc⟩ | ⟨hne, hd, hr⟩
    · have hg := getD_at (c := c) (l := rest) (by simpa using e)
      exact ⟨11, by simp, hit_sep text pre.length ma x y z (by simp at hs; omega) (by rw [hg]; exact sep_notdig hc) (by rw [hg]; exact hc)⟩
    · have hn := dRun_is ht pre rest (by simpa using e) hd hr
      obtain ⟨n, hl⟩ : ∃ n, ht.length = n + 1 := ⟨ht.length - 1, by have := List.length_pos_iff.mpr hne; omega⟩
      rw [hl] at hn
      refine ⟨10, by simp, ?_⟩
      rw [hl]
      exact hit_dig text pre.length n ma x y z (by simp at hs; omega) hsz hn
  | c :: sk, pre, e, hp, ma, x, y, z => by
    have hs := size_of e
    have hg := getD_at (c := c) (l := sk ++ (ht ++ rest)) (by simpa using e)
    have hc := hp c (.head _)
    obtain ⟨z', e'⟩ := other text pre.length ma false x y z (by simp at hs; omega) (by rw [hg]; exact hc.1) (by rw [hg]; exact hc.2)
    obtain ⟨k, hk, hh⟩ := search_hit hsz hw sk (pre ++ [c]) (by simpa using e) (fun d hd => hp d (.tail _ hd)) false (some pre.length) y z'
    refine ⟨7 + k, by simp; omega, ?_⟩
    rw [runFor_add, e']
    rw [List.length_append, List.length_singleton] at hh
    rw [List.length_cons, show pre.length + (sk.length + 1) = pre.length + 1 + sk.length from by omega]
    exact hh
theorem search_none {text : Array Nat} : ∀ (sk pre : List Nat), text.toList = pre ++ sk → (∀ c ∈ sk, plainC c) → ∀ ma x y z, ∃ k, k ≤ 7 * sk.length + 8 ∧ (M.runFor k (mAt text pre.length ma false x y z)).outcome = some .failed
  | [], pre, e, _, ma, x, y, z => ⟨8, by simp, at_end text pre.length ma false x y z (by have := size_of e; simp at this; omega)⟩
  | c :: sk, pre, e, hp, ma, x, y, z => by
    have hs := size_of e
    have hg := getD_at (c := c) (l := sk) e
    have hc := hp c (.head _)
    obtain ⟨z', e'⟩ := other text pre.length ma false x y z (by simp at hs; omega) (by rw [hg]; exact hc.1) (by rw [hg]; exact hc.2)
    obtain ⟨k, hk, hh⟩ := search_none sk (pre ++ [c]) (by simpa using e) (fun d hd => hp d (.tail _ hd)) false (some pre.length) y z'
    refine ⟨7 + k, by simp; omega, ?_⟩
    rw [runFor_add, e']
    rw [List.length_append, List.length_singleton] at hh
    exact hh
theorem forS_lt {text : Array Nat} {st : Nat} (h : st < text.size) : ∃ z, forSearch code1 text 1 st text.size false = mAt text st true false none none z := by
  refine ⟨({} : Sre.Seen).add 14, ?_⟩
  unfold forSearch
  show (if (decide (st > text.size) || decide (text.size - st < 1)) = true then _ else _) = _
  rw [if_neg (by simp; omega)]
  rfl
theorem forS_end {text : Array Nat} {st : Nat} (h : st = text.size) : (M.runFor 1 (forSearch code1 text 1 st text.size false)).outcome = some .failed := by
  unfold forSearch
  show (M.runFor 1 (if (decide (st > text.size) || decide (text.size - st < 1)) = true then _ else _)).outcome = _
  rw [if_pos (by simp; omega)]
  rfl
theorem runFor_stays {m : M} (h : m.outcome.isSome = true) : ∀ j, M.runFor j m = m
  | 0 => rfl
  | j + 1 => by show (if m.outcome.isSome then m else _) = m; rw [if_pos h]
section
variable {Mo : Model} {A : Around} {E : Value → Shared → Prop} {s : Shared}
theorem drive {Q : M → Shared → Prop} : ∀ (turns k : Nat) (m : M), k ≤ 4 * turns → 0 < turns → (M.runFor k m).outcome.isSome = true → Q (M.runFor k m) s → wpAny Mo A (reDrive turns m) Q E s
  | 0, _, _, _, h0, _, _ => absurd h0 (Nat.lt_irrefl _)
  | t + 1, k, m, hk, _, ho, hq => by
    unfold reDrive
    show wpAny Mo A (if (M.runFor 4 m).outcome.isSome = true then pure (M.runFor 4 m) else do rule "sre.turn"; reDrive t (M.runFor 4 m)) Q E s
    by_cases h4 : (M.runFor 4 m).outcome.isSome = true
    · rw [if_pos h4]
      refine wpAny_pure ?_
      have : M.runFor k m = M.runFor 4 m := by
        by_cases hk4 : k ≤ 4
        · rw [show M.runFor 4 m = M.runFor (k + (4 - k)) m from by rw [Nat.add_sub_cancel' hk4], runFor_add, runFor_stays ho]
        · rw [show k = 4 + (k - 4) from by omega, runFor_add, runFor_stays h4]
      rw [← this]; exact hq
    · rw [if_neg h4]
      refine wpAny_bind (wpAny_rule ?_)
      by_cases hk4 : k ≤ 4
      · exfalso
        apply h4
        rw [show M.runFor 4 m = M.runFor (k + (4 - k)) m from by rw [Nat.add_sub_cancel' hk4], runFor_add, runFor_stays ho]; exact ho
      · have e : M.runFor k m = M.runFor (k - 4) (M.runFor 4 m) := by rw [← runFor_add, show 4 + (k - 4) = k from by omega]
        rw [e] at ho hq
        exact drive t (k - 4) _ (by omega) (by omega) ho hq
theorem rules {Q : PUnit → Shared → Prop} {f : Nat → Bool} {g : Nat → String} (hq : Q ⟨⟩ s) : ∀ l : List Nat, wpAny Mo A (forIn l PUnit.unit fun i _ => if f i = true then do rule (g i); pure (ForInStep.yield PUnit.unit) else pure (ForInStep.yield PUnit.unit)) Q E s
  | [] => by rw [List.forIn_nil]; exact wpAny_pure hq
  | i :: l => by
    rw [List.forIn_cons]
    refine wpAny_bind ?_
    split
    · exact wpAny_bind (wpAny_rule (wpAny_pure (rules hq l)))
    · exact wpAny_pure (rules hq l)
theorem toEnd_hit {Q : Option M → Shared → Prop} {m : M} {k a b : Nat} (hk : k ≤ 1000000000) (hh : Hit (M.runFor k m) a b) (hq : ∀ m', Hit m' a b → Q (some m') s) : wpAny Mo A (reRunToEnd m) Q E s := by
  unfold reRunToEnd
  refine wpAny_bind (drive (2 ^ 64) k m (Nat.le_trans hk (by decide)) (by decide) (by rw [hh.outcome]; rfl) ?_)
  refine wpAny_bind (rules ?_ _)
  rw [hh.outcome]
  exact wpAny_pure (hq _ hh)
theorem toEnd_none {Q : Option M → Shared → Prop} {m : M} {k : Nat} (hk : k ≤ 1000000000) (hh : (M.runFor k m).outcome = some .failed) (hq : Q none s) : wpAny Mo A (reRunToEnd m) Q E s := by
  unfold reRunToEnd
  refine wpAny_bind (drive (2 ^ 64) k m (Nat.le_trans hk (by decide)) (by decide) (by rw [hh]; rfl) ?_)
  refine wpAny_bind (rules ?_ _)
  rw [hh]
  exact wpAny_pure hq
end
end Mine
end

section
open PySem PySem.W PySem.Calls
set_option maxRecDepth 100000
namespace Mine
open PySem.Sre PySem.Builtin.Re
theorem slot_split : Slot "re.Pattern" "split" "re.Pattern.split" :=
  .of (owner := "re.Pattern") (n := "split") (by rw [typeLookup_type, builtinLookup_eq_fast]; kernel_rfl) (by decide +kernel) (by decide +kernel) (by decide +kernel)
    (by first | exact .inl (by decide +kernel) | exact .inr (by decide +kernel)) (by rw [isSubtype_type]; kernel_rfl)
theorem type_split : typeOf (.builtin "re.Pattern.split") = pure (.type "method_descriptor") := by show builtinType _ = _; rw [builtinType_eq_fast]; kernel_rfl
theorem entry_split : entryFor table "re.Pattern.split" = some Builtin.«re.Pattern.split» := entryFor_of_tree (by kernel_rfl)
/-- the pieces of a text -/
inductive Sp : List Nat → List (List Nat) → Prop
  | last (l : List Nat) (h : ∀ c ∈ l, plainC c) : Sp l [l]
  | hit (sk ht rest : List Nat) (r : List (List Nat)) (hsk : ∀ c ∈ sk, plainC c) (hh : HitW ht rest) (hr : Sp rest r) : Sp (sk ++ (ht ++ rest)) (sk :: ht :: r)
/-- the values are these texts -/
inductive StrsAre : List Value → List Str → Prop
  | nil : StrsAre [] []
  | cons {x : Str} {t : Tok} {vs : List Value} {xs : List Str} : StrsAre vs xs → StrsAre (.str x t :: vs) (x :: xs)
theorem StrsAre.append : ∀ {vs xs vs' xs'}, StrsAre vs xs → StrsAre vs' xs' → StrsAre (vs ++ vs') (xs ++ xs')
  | _, _, _, _, .nil, h => h
  | _, _, _, _, .cons a, h => .cons (a.append h)
abbrev ofL (l : List Nat) : Str := ⟨l.toArray⟩
theorem HitW.ne {ht rest : List Nat} (h : HitW ht rest) : 0 < ht.length := by
  rcases h with ⟨c, rfl, _⟩ | ⟨h, _⟩
  · exact Nat.zero_lt_one
  · exact List.length_pos_iff.mpr h
theorem Sp.len {l : List Nat} {r : List (List Nat)} (h : Sp l r) : r.length ≤ 2 * l.length + 1 := by
  induction h with
  | last => simp
  | hit sk ht rest r _ hh _ ih => have := hh.ne; simp only [List.length_cons, List.length_append]; omega
theorem ext_at {text : Array Nat} {pre mid rest : List Nat} (e : text.toList = pre ++ (mid ++ rest)) : text.extract pre.length (pre.length + mid.length) = mid.toArray := by
  apply Array.ext'
  rw [Array.toList_extract, e]
  simp [List.extract]
def sbody (t : ReTarget) (_x : Nat) (st : Array Value × Nat × Nat × Bool × Int × Bool) : Sem (ForInStep (Array Value × Nat × Nat × Bool × Int × Bool)) :=
  if (!st.2.2.2.2.2) = true then do
    let __do_lift ← if ((0 : Int) != 0 && decide (st.2.2.2.2.1 ≥ 0)) = true then pure none else reNextFound t st.2.1 st.2.2.2.1
    match __do_lift with
      | none => pure (ForInStep.yield (st.1, st.2.1, st.2.2.1, st.2.2.2.1, st.2.2.2.2.1, true))
      | some m => do
        let v ← reSlice t.text t.kind st.2.2.1 m.start
        let out ← forIn (List.range t.groups) (st.1.push v) fun g out => do
              let v ← reMachineGroup t m (g + 1) (pure Value.none)
              pure (ForInStep.yield (out.push v))
        pure (ForInStep.yield (out, m.handed, m.handed, m.handed == m.start, st.2.2.2.2.1 + 1, st.2.2.2.2.2))
  else pure (ForInStep.yield st)
section
variable {Mo : Model} {A : Around} {E : Value → Shared → Prop} {p s₀ : Value} {text : Array Nat}
abbrev tgt (p s₀ : Value) (text : Array Nat) : ReTarget := { pattern := p, string := s₀, code := code1, text := text, kind := 0, groups := 1, pos := 0, lim := text.size }
theorem idle {Q} {s : Shared} {a b c d n} : ∀ l : List Nat, Q (a, b, c, d, n, true) s → wpAny Mo A (forIn l (a, b, c, d, n, true) (sbody (tgt p s₀ text))) Q E s
  | [], h => by rw [List.forIn_nil]; exact wpAny_pure h
  | _ :: l, h => by rw [List.forIn_cons]; exact wpAny_bind (wpAny_pure (idle l h))
theorem loop (hsz : text.size ≤ 1000000) {s : Shared} {Q : (Array Value × Nat × Nat × Bool × Int × Bool) → Shared → Prop} {rem : List Nat} {r : List (List Nat)} (hsp : Sp rem r) : ∀ (l : List Nat) (pre : List Nat) (out : List Value) (tk : Nat) (n : Int),
    text.toList = pre ++ rem → r.length ≤ 2 * l.length →
    (∀ vs rs fin pre' st d n' tk', StrsAre vs (rs.map ofL) → r = rs ++ [fin] → text.toList = pre' ++ fin → Q ((out ++ vs).toArray, st, pre'.length, d, n', true) { s with toks := tk' }) →
    wpAny Mo A (forIn l (out.toArray, pre.length, pre.length, false, n, false) (sbody (tgt p s₀ text))) Q E { s with toks := tk } := by
  induction hsp with
  | last rem h =>
    intro l pre out tk n e hl hq
    match l with
    | [] => simp at hl
    | i :: l =>
      rw [List.forIn_cons]
      refine wpAny_bind ?_
      show wpAny Mo A ((if ((0 : Int) != 0 && decide (n ≥ 0)) = true then pure none else reNextFound (tgt p s₀ text) pre.length false) >>= _) _ E _
      refine wpAny_bind ?_
      show wpAny Mo A (reRunToEnd (forSearch code1 text 1 pre.length text.size false)) _ E _
      have fin : wpAny Mo A (forIn l (out.toArray, pre.length, pre.length, false, n, true) (sbody (tgt p s₀ text))) Q E { s with toks := tk } :=
        idle l (by simpa using hq [] [] rem pre pre.length false n tk .nil rfl e)
      have hs := size_of e
      by_cases hlt : pre.length < text.size
      · obtain ⟨z, ez⟩ := forS_lt hlt
        obtain ⟨k, hk, ho⟩ := search_none rem pre e h true none none z
        rw [← ez] at ho
        exact toEnd_none (k := k) (by simp at hs; omega) ho (wpAny_pure fin)
      · exact toEnd_none (k := 1) (by omega) (forS_end (by simp at hs; omega)) (wpAny_pure fin)
  | hit sk ht rest r hsk hh _ ih =>
    intro l pre out tk n e hl hq
    match l with
    | [] => simp at hl
    | i :: l =>
      rw [List.forIn_cons]
      refine wpAny_bind ?_
      show wpAny Mo A ((if ((0 : Int) != 0 && decide (n ≥ 0)) = true then pure none else reNextFound (tgt p s₀ text) pre.length false) >>= _) _ E _
      refine wpAny_bind ?_
      show wpAny Mo A (reRunToEnd (forSearch code1 text 1 pre.length text.size false)) _ E _
      have hs : text.size = pre.length + (sk.length + (ht.length + rest.length)) := by have := size_of e; simpa using this
      have hne := hh.ne
      have hlt : pre.length < text.size := by omega
      obtain ⟨z, ez⟩ := forS_lt hlt
      obtain ⟨k, hk, ho⟩ := search_hit (by omega) hh sk pre e hsk true none none z
      rw [← ez] at ho
      refine toEnd_hit (k := k) (by omega) ho fun m' hm => ?_
      dsimp only
      rw [hm.start, hm.handed]
      refine wpAny_bind ?_
      have e1 : text.extract pre.length (pre.length + sk.length) = sk.toArray := ext_at e
      have e2 : text.extract (pre.length + sk.length) (pre.length + sk.length + ht.length) = ht.toArray := by
        have := ext_at (text := text) (pre := pre ++ sk) (mid := ht) (rest := rest) (by simpa using e)
        simpa using this
      show wpAny Mo A (mkStr ⟨text.extract pre.length (pre.length + sk.length)⟩) _ E _
      rw [e1]
      refine wpAny_mkStr ?_ (by show sk.toArray.size ≤ sizeLine; simp [sizeLine]; omega)
      refine wpAny_bind ?_
      show wpAny Mo A (forIn [0] _ _) _ E _
      rw [List.forIn_cons]
      refine wpAny_bind (wpAny_bind ?_)
      show wpAny Mo A (if ((0 : Nat) : Int) ≥ m'.lastmark then _ else _) _ E _
      rw [hm.lastmark, if_neg (by decide), hm.marks]
      show wpAny Mo A (if pre.length + sk.length + ht.length < pre.length + sk.length then _ else mkStr ⟨text.extract (pre.length + sk.length) (pre.length + sk.length + ht.length)⟩) _ E _
      rw [if_neg (by omega), e2]
      refine wpAny_mkStr ?_ (by show ht.toArray.size ≤ sizeLine; simp [sizeLine]; omega)
      refine wpAny_pure ?_
      dsimp only
      rw [List.forIn_nil]
      refine wpAny_pure (wpAny_pure ?_)
      dsimp only
      rw [show ((pre.length + sk.length + ht.length == pre.length + sk.length) = false) from beq_eq_false_iff_ne.mpr (by omega)]
      have := ih l (pre ++ sk ++ ht) (out ++ [.str (ofL sk) tk, .str (ofL ht) (tk + 1)]) (tk + 1 + 1) (n + 1) (by simpa using e) (by simp only [List.length_cons] at hl; omega) (fun vs rs fin pre' st d n' tk' hv hr he => by
        have := hq (.str (ofL sk) tk :: .str (ofL ht) (tk + 1) :: vs) (sk :: ht :: rs) fin pre' st d n' tk' (.cons (.cons hv)) (by rw [hr]; rfl) he
        simpa using this)
      simpa [List.length_append, Nat.add_assoc] using this
theorem raw_code : ((#[.int 14 0, .int 4 0, .int 0 0, .int 1 0, .int 4294967295 0, .int 17 0, .int 0 0, .int 7 0, .int 14 0, .int 24 0, .int 10 0, .int 1 0, .int 4294967295 0, .int 13 0, .int 5 0, .int 22 0, .int 48 0, .int 57 0, .int 0 0, .int 1 0, .int 15 0, .int 17 0, .int 15 0, .int 13 0, .int 11 0, .int 9 0, .int 0 0, .int 26624 0, .int 2147483648 0, .int 0 0, .int 0 0, .int 0 0, .int 0 0, .int 0 0, .int 0 0, .int 15 0, .int 2 0, .int 0 0, .int 17 0, .int 1 0, .int 1 0] : Array Value).map reRawOf).map (·.toNat) = code1 := by decide +kernel
theorem split_body {s : Shared} {a c : Addr} {oa oc : Obj} {f0 f1 f3 f4 : Value} {cv : Array Value} {cn : Nat} {x : Str} {u : Tok} {r : List (List Nat)} {Q : PySem.Fin → Shared → Prop}
    (ha : s.heap.get? a = some oa) (hda : oa.data = .fields #[f0, f1, .int 1 0, f3, f4, .ref c, .int 0 0]) (hc : s.heap.get? c = some oc) (hdc : oc.data = .seq cv cn) (hcv : (cv.map reRawOf).map (·.toNat) = code1)
    (hsp : Sp x.cps.toList r) (hsz : x.cps.size ≤ 1000000)
    (h : ∀ vs tk, StrsAre vs (r.map ofL) → Q (.done (.ret (.ref s.heap.objs.size))) { s with heap := s.heap.push { cls := .type "list", data := .seq vs.toArray }, toks := tk }) :
    wpAny Mo A (Builtin.«re.Pattern.split» ⟨[.ref a, .str x u], []⟩) Q E s := by
  unfold Builtin.«re.Pattern.split»
  show wpAny Mo A (reNamed "re.Pattern.split" "split" ["string", "maxsplit"] 1 [.str x u] [] >>= _) Q E s
  rw [show reNamed "re.Pattern.split" "split" ["string", "maxsplit"] 1 [.str x u] [] = pure [some (.str x u), none] from rfl]
  refine wpAny_bind (wpAny_pure ?_)
  refine wpAny_bind (wpAny_pure ?_)
  refine wpAny_bind ?_
  have key : wpAny Mo A (reWholeTarget (.ref a) (.str x u)) (fun t s' => t = tgt (.ref a) (.str x u) x.cps ∧ s' = s) E s := by
    unfold reWholeTarget
    refine wpAny_bind (wpAny_fieldsOf ha hda ?_)
    show wpAny Mo A (reRawItems (.ref c) >>= _) _ E s
    refine wpAny_bind ?_
    unfold reRawItems
    refine wpAny_bind (wpAny_seqItems hc hdc (wpAny_pure (wpAny_pure ⟨?_, rfl⟩)))
    show ({ pattern := _, string := _, code := (cv.map reRawOf).map (·.toNat), text := _, kind := _, groups := _, pos := _, lim := _ } : ReTarget) = _
    rw [hcv]; rfl
  refine wpAny_mono key (fun t s' ht => ?_) (fun _ _ e => e)
  obtain ⟨rfl, rfl⟩ := ht
  have hl : r.length ≤ 2 * x.cps.size + 1 := by simpa using hsp.len
  refine wpAny_bind ?_
  refine loop (p := .ref a) (s₀ := .str x u) hsz (s := s') hsp (List.range (reMostMatches (tgt (.ref a) (.str x u) x.cps))) [] [] s'.toks 0 rfl ?_ ?_
  · rw [List.length_range]; show r.length ≤ 2 * (2 * x.cps.size + 3); omega
  · intro vs rs fin pre' st d n' tk' hv hr he
    have e1 : x.cps.extract pre'.length x.cps.size = fin.toArray := by
      have := ext_at (text := x.cps) (pre := pre') (mid := fin) (rest := []) (by simpa using he)
      rw [show x.cps.size = pre'.length + fin.length from by rw [size_of he]; simp]; exact this
    have hs := size_of he
    rw [List.length_append] at hs
    show wpAny Mo A (mkStr ⟨x.cps.extract pre'.length x.cps.size⟩ >>= _) Q E _
    rw [e1]
    refine wpAny_bind (wpAny_mkStr ?_ (by show fin.toArray.size ≤ sizeLine; simp [sizeLine]; omega))
    have hlen : (vs ++ [Value.str (ofL fin) tk']).length = r.length := by
      have : ∀ {vs xs}, StrsAre vs xs → vs.length = xs.length := by
        intro vs xs h
        induction h with
        | nil => rfl
        | cons _ ih => simp [ih]
      rw [hr]; simp [this hv]
    have hv' : StrsAre (vs ++ [Value.str (ofL fin) tk']) (r.map ofL) := by
      rw [hr, List.map_append]; exact hv.append (.cons .nil)
    rw [show ((([] : List Value) ++ vs).toArray.push (Value.str (ofL fin) tk')).toList = vs ++ [Value.str (ofL fin) tk'] from by simp]
    refine wpAny_bind (wpAny_newObj_type (h := wpAny_pure (h _ _ hv')) (by show (vs ++ [Value.str (ofL fin) tk']).toArray.size ≤ sizeLine; rw [List.size_toArray, hlen]; simp only [sizeLine]; omega))
end
end Mine
end

section
open PySem PySem.W PySem.Calls PyProof.Rows
set_option maxRecDepth 100000
set_option linter.unusedVariables false
namespace Mine
theorem plain_re : PlainAttrs "re.Pattern" :=
  ⟨⟨"object.__getattribute__", by rw [typeLookup_type, builtinLookup_eq_fast]; kernel_rfl, by decide +kernel⟩, by rw [typeLookup_type, builtinLookup_eq_fast]; kernel_rfl⟩
theorem owner_re : Manifest.owners.lookup (String.ofList ['n', 'r', 'e', 't', 't', 'a', 'P', '.', 'e', 'r'].reverse) = some Manifest.sig_re_Pattern := by kernel_rfl
theorem args_split (a b : Value) : argsOk "re.Pattern.split" ⟨[a, b], []⟩ := by
  unfold argsOk; rw [signature?_of (id := "re.Pattern.split") (n := ['t', 'i', 'l', 'p', 's']) (o := ['n', 'r', 'e', 't', 't', 'a', 'P', '.', 'e', 'r']) (by kernel_rfl) owner_re]; kernel_rfl
section
variable {w : World} {A : Around} {E : Value → Shared → Prop} {s : Shared} {h₀ : Heap} {L : Addr} {m : Str → Option Value} {news : List (Addr × Obj)}
theorem split_method {Q : Value × List Value → Shared → Prop} {pl : Sem Bool} (F : Fr h₀ L s.heap m) (X : (hd.heap_39 w.params).In h₀) (h : Q (.builtin "re.Pattern.split", [.ref 78]) s) :
    wpAny (model PR w) A (getMethod (.ref 78) (Str.ofString "split") pl) Q E s := by
  have h78 := (X.keeps F.keep) 78 _ (by k_dflt k_is)
  exact getMethod_builtin ⟨_, h78, rfl⟩ plain_re slot_split type_split (fun a e => by cases e; exact ⟨_, h78, rfl⟩) h
theorem split_call {x : Str} {u : Tok} {r : List (List Nat)} {Q : Value → Shared → Prop} (F : Fr h₀ L s.heap m) (N : News h₀ L s.heap news) (X : (hd.heap_39 w.params).In h₀) (hsp : Sp x.cps.toList r) (hsz : x.cps.size ≤ 1000000)
    (h : ∀ vs l h' tk, StrsAre vs (r.map ofL) → Fr h₀ L h' m → News h₀ L h' ((l, listOf vs.toArray 0) :: news) → (∀ p ∈ news, p.1 < l) → Q (.ref l) { s with heap := h', toks := tk }) :
    wpAny (model PR w) A (call (.builtin "re.Pattern.split") [.ref 78, .str x u]) Q E s := by
  have h78 := (X.keeps F.keep) 78 _ (by k_dflt k_is)
  have h77 := (X.keeps F.keep) 77 _ (by k_dflt k_is)
  refine wpAny_call (codeAny_call_builtin slot_split.plain entry_split (slot_split.check _ _ _ _ _ _ _ _ ⟨_, h78, rfl⟩ (args_split _ _) ?_))
  refine split_body h78 rfl h77 rfl (by decide +kernel) hsp hsz fun vs tk hv => ?_
  exact h vs _ _ tk hv (F.push _) (N.push F _) fun p hp => Heap.lt_size (N p hp).1
end
end Mine
end

section
open PySem PySem.W PySem.Calls PyProof.Rows
set_option maxRecDepth 100000
set_option linter.unusedVariables false
namespace Mine
/-- a for that waits for its word -/
def ForAt (w : World) (A : Around) (env : Env) (tg : PySem.Expr) (body : List Stmt) (Q : Flow → Shared → Prop) (E : Value → Shared → Prop) (xv : Value) (s₁ : Shared) : Prop :=
  wpAny (model PR w) A (pyIter xv) (fun it s₂ => codeAny (model PR w) A (.forLoop tg it body [] env) (fun r s' => match r with | .ok f => Q f s' | .error e => cameBackBy (model PR w) A env E e s') s₂) E s₁
theorem for_open {w : World} {A : Around} {env : Env} {tg : PySem.Expr} {iter : PySem.Expr} {pos : Pos} {body : List Stmt} {Q : Flow → Shared → Prop} {E : Value → Shared → Prop} {s : Shared}
    (h : wpAny (model PR w) A (eval iter env) (fun xv s₁ => ForAt w A env tg body Q E xv s₁) E s) (hs : ∀ x, foldedSetIterable iter env x = pure x) :
    wpAny (model PR w) A (exec (.For tg iter body [] pos) env) Q E s := wpAny_For h hs
/-- a turn's end -/
def TurnEnd (h₀ : Heap) (L : Addr) (s : Shared) (I : Addr) (oI : Obj) (Jn : (Str → Option Value) → List (Addr × Obj) → Prop) (Q : Flow → Shared → Prop) (f : Flow) (s₂ : Shared) : Prop := match f with
  | .ret v => Q (.ret v) s₂
  | .brk => Q .next s₂
  | _ => ∃ h' tk m' led, s₂ = { s with heap := h', toks := tk } ∧ Fr h₀ L h' m' ∧ News h₀ L h' ((I, oI) :: led) ∧ (∀ p ∈ led, p.1 ≠ I) ∧ Jn m' led
theorem TurnEnd.of {h₀ : Heap} {L : Addr} {s : Shared} {I : Addr} {oI : Obj} {Jn : (Str → Option Value) → List (Addr × Obj) → Prop} {Q : Flow → Shared → Prop} {f : Flow} {h' : Heap} {tk : Nat} {m' : Str → Option Value} {led : List (Addr × Obj)}
    (hf : f = .next ∨ f = .cont) (F : Fr h₀ L h' m') (N : News h₀ L h' ((I, oI) :: led)) (hI : ∀ p ∈ led, p.1 ≠ I) (hJ : Jn m' led) : TurnEnd h₀ L s I oI Jn Q f { s with heap := h', toks := tk } := by
  rcases hf with rfl | rfl <;> exact ⟨h', tk, m', led, rfl, F, N, hI, hJ⟩
theorem Fr.sameBut {h₀ h h' : Heap} {L I : Addr} {m : Str → Option Value} (F : Fr h₀ L h m) (hs : Heap.ExtBut I h h') (hL : L ≠ I) (hI : h₀.get? I = none) : Fr h₀ L h' m := by
  obtain ⟨oL, es, ep, hLo, r⟩ := F.ns
  refine ⟨⟨oL, es, ep, hs L oL hL hLo, r⟩, fun b o e => hs b o (fun q => ?_) (F.keep b o e), F.above⟩
  rw [q, hI] at e; cases e
theorem forAt_list {w : World} {A : Around} {env : Env} {x : Str} {px : Pos} {body : List Stmt} {Q : Flow → Shared → Prop} {E : Value → Shared → Prop} {s : Shared} {h₀ : Heap} {m : Str → Option Value} {news : List (Addr × Obj)} {l : Addr} {vs : List Value} {n : Nat}
    (J : List Value → (Str → Option Value) → List (Addr × Obj) → Prop)
    (F : Fr h₀ env.locals s.heap m) (N : News h₀ env.locals s.heap news) (h0 : J [] m news) (hJl : ∀ d m led, J d m led → (l, listOf vs.toArray n) ∈ led)
    (turn : ∀ I oI dn v rest m₁ led h tk, vs = dn ++ v :: rest → J dn m₁ led → (∀ p ∈ news, p.1 < I) → (∀ p ∈ led, p.1 ≠ I) → Fr h₀ env.locals h (fun y => if y = x then some v else m₁ y) → News h₀ env.locals h ((I, oI) :: led) →
      wpAny (model PR w) A (execs body env) (TurnEnd h₀ env.locals s I oI (J (dn ++ [v])) Q) E { s with heap := h, toks := tk })
    (done : ∀ m₁ led h tk, J vs m₁ led → Fr h₀ env.locals h m₁ → News h₀ env.locals h led → Q .next { s with heap := h, toks := tk })
    (hh : A.handled = none) (hx : env.kindOf x = some .local) (hp : (env.scope.kind == .class || (env.scope.kind == .module && env.locals != env.globals)) = false) (hE : PassesOwn (model PR w) A env E) :
    ForAt w A env (.Name x px) body Q E (.ref l) s := by
  have hm := hJl _ _ _ h0
  refine wpAny_pyIter_list ⟨_, (N _ hm).1, rfl, n, rfl⟩ ?_
  have hnI : h₀.get? s.heap.objs.size = none := next_is_new F
  have hLI : env.locals ≠ s.heap.objs.size := Nat.ne_of_lt F.ns.lt
  refine codeAny_forLoop (fun k s' => ∃ h' tk m' led dn rest oI, s' = { s with heap := h', toks := tk } ∧ vs = dn ++ rest ∧ k = rest.length + 1 ∧ h'.IsListIter s.heap.objs.size l dn.length ∧ Fr h₀ env.locals h' m' ∧ News h₀ env.locals h' ((s.heap.objs.size, oI) :: led) ∧ (∀ p ∈ led, p.1 ≠ s.heap.objs.size) ∧ J dn m' led) ?_ (vs.length + 1)
    ⟨_, s.toks, m, news, [], vs, _, rfl, rfl, rfl, ⟨_, Heap.get?_push_size _ rfl, rfl, rfl⟩, F.push _, N.push F _, fun p hp => Nat.ne_of_lt (Heap.lt_size (N p hp).1), h0⟩
  rintro k s' ⟨h', tk, m', led, dn, rest, oI, rfl, hv, rfl, hit, F', N', hne, hJ⟩
  have hl' : h'.IsList l vs.toArray := ⟨_, (N' _ (.tail _ (hJl _ _ _ hJ))).1, rfl, n, rfl⟩
  cases rest with
  | nil =>
    refine wpAny_pyNext_list_end hh hit hl' (by rw [hv]; simp) fun h₁ he => wpAny_execs_nil ?_
    have hv' : dn = vs := by rw [hv, List.append_nil]
    subst hv'
    exact done m' led h₁ tk hJ (Fr.sameBut F' he hLI hnI) fun p hp => ⟨he _ _ (hne p hp) (N' p (.tail _ hp)).1, (N' p (.tail _ hp)).2⟩
  | cons v rest =>
    refine wpAny_pyNext_list_item hit hl' (x := v) (by rw [hv]; simp) fun h₁ hit₁ hs₁ => ?_
    have F₁ : Fr h₀ env.locals h₁ m' := Fr.sameBut F' hs₁.extBut hLI hnI
    refine wpAny_assign_Name (wpAny_storeName_local hx F₁.ns (fun h₂ hn₂ hs₂ => ?_) hp)
    have F₂ := F₁.set hn₂ hs₂
    have hit₂ : h₂.IsListIter s.heap.objs.size l (dn.length + 1) := hit₁.at fun o e => (hs₂.2 _ (Ne.symm hLI)).trans e
    obtain ⟨oI₂, ho₂, _⟩ := id hit₂
    have N₂ : News h₀ env.locals h₂ ((s.heap.objs.size, oI₂) :: led) := fun p hp => by
      rcases List.mem_cons.mp hp with rfl | hp
      · exact ⟨ho₂, Ne.symm hLI, hnI⟩
      · have z := N' p (.tail _ hp)
        exact ⟨(hs₂.2 _ z.2.1).trans (hs₁.extBut _ _ (hne p hp) z.1), z.2⟩
    refine wpAny_passesOwn hE ?_
    refine wpAny_mono (turn s.heap.objs.size oI₂ dn v rest m' led h₂ (tk + 1) hv hJ (fun p hp => Heap.lt_size (N p hp).1) hne F₂ N₂) (fun f s₃ h₃ => ?_) fun _ _ e => e
    have fin : (∃ h' tk m' led', s₃ = { s with heap := h', toks := tk } ∧ Fr h₀ env.locals h' m' ∧ News h₀ env.locals h' ((s.heap.objs.size, oI₂) :: led') ∧ (∀ p ∈ led', p.1 ≠ s.heap.objs.size) ∧ J (dn ++ [v]) m' led') →
        ∃ mm, mm < (v :: rest).length + 1 ∧ ∃ h' tk m' led dn rest oI, s₃ = { s with heap := h', toks := tk } ∧ vs = dn ++ rest ∧ mm = rest.length + 1 ∧ h'.IsListIter s.heap.objs.size l dn.length ∧ Fr h₀ env.locals h' m' ∧ News h₀ env.locals h' ((s.heap.objs.size, oI) :: led) ∧ (∀ p ∈ led, p.1 ≠ s.heap.objs.size) ∧ J dn m' led := by
      rintro ⟨h₄, tk₄, m₄, led₄, rfl, F₄, N₄, ne₄, J₄⟩
      refine ⟨rest.length + 1, by simp, h₄, tk₄, m₄, led₄, dn ++ [v], rest, oI₂, rfl, by rw [hv]; simp, rfl, ?_, F₄, N₄, ne₄, J₄⟩
      rw [List.length_append, List.length_singleton]
      exact hit₂.at fun o e => by rw [ho₂] at e; cases e; exact (N₄ _ (.head _)).1
    cases f with
    | ret v => exact h₃
    | brk => exact h₃
    | next => exact fin h₃
    | cont => exact fin h₃
end Mine
end

section
open PySem PySem.W PySem.Calls PyProof.Rows
set_option maxRecDepth 100000
set_option linter.unusedVariables false
namespace Mine
def ForAtH (w : World) (A : Around) (env : Env) (tg : PySem.Expr) (body : List Stmt) (Q : Flow → Shared → Prop) (E : Value → Shared → Prop) (xv : Value) (s₁ : Shared) : Prop :=
  wpAny (model PR w) A (pyIter xv) (fun it s₂ => codeH (model PR w) A (.forLoop tg it body [] env) (fun r s' => match r with | .ok f => Q f s' | .error e => cameBackBy (model PR w) A env E e s') s₂) E s₁
theorem opqH {α : Type} {M : Model} {A : Around} {E : Value → Shared → Prop} {s : Shared} {c : Sem α} {Q : α → Shared → Prop} (h : ∀ Q' : α → Shared → Prop, (∀ a s', Q a s' → Q' a s') → wpH M A c Q' E s) : wpH M A c Q E s := h Q fun _ _ x => x
theorem for_openH {w : World} {A : Around} {env : Env} {tg : PySem.Expr} {iter : PySem.Expr} {pos : Pos} {body : List Stmt} {Q : Flow → Shared → Prop} {E : Value → Shared → Prop} {s : Shared}
    (h : wpAny (model PR w) A (eval iter env) (fun xv s₁ => ForAtH w A env tg body Q E xv s₁) E s) (hs : ∀ x, foldedSetIterable iter env x = pure x) :
    wpH (model PR w) A (exec (.For tg iter body [] pos) env) Q E s := h_for h hs
theorem forAtH_list {w : World} {A : Around} {env : Env} {x : Str} {px : Pos} {body : List Stmt} {Q : Flow → Shared → Prop} {E : Value → Shared → Prop} {s : Shared} {h₀ : Heap} {m : Str → Option Value} {news : List (Addr × Obj)} {l : Addr} {vs : List Value} {n : Nat}
    (J : List Value → (Str → Option Value) → List (Addr × Obj) → Prop)
    (F : Fr h₀ env.locals s.heap m) (N : News h₀ env.locals s.heap news) (h0 : J [] m news) (hJl : ∀ d m led, J d m led → (l, listOf vs.toArray n) ∈ led)
    (turn : ∀ I oI dn v rest m₁ led h tk, vs = dn ++ v :: rest → J dn m₁ led → (∀ p ∈ news, p.1 < I) → (∀ p ∈ led, p.1 ≠ I) → Fr h₀ env.locals h (fun y => if y = x then some v else m₁ y) → News h₀ env.locals h ((I, oI) :: led) →
      wpH (model PR w) A (execs body env) (TurnEnd h₀ env.locals s I oI (J (dn ++ [v])) Q) (fun _ _ => False) { s with heap := h, toks := tk })
    (done : ∀ m₁ led h tk, J vs m₁ led → Fr h₀ env.locals h m₁ → News h₀ env.locals h led → Q .next { s with heap := h, toks := tk })
    (hh : A.handled = none) (hx : env.kindOf x = some .local) (hp : (env.scope.kind == .class || (env.scope.kind == .module && env.locals != env.globals)) = false) :
    ForAtH w A env (.Name x px) body Q E (.ref l) s := by
  have hm := hJl _ _ _ h0
  refine wpAny_pyIter_list ⟨_, (N _ hm).1, rfl, n, rfl⟩ ?_
  have hnI : h₀.get? s.heap.objs.size = none := next_is_new F
  have hLI : env.locals ≠ s.heap.objs.size := Nat.ne_of_lt F.ns.lt
  refine h_forLoop (fun k s' => ∃ h' tk m' led dn rest oI, s' = { s with heap := h', toks := tk } ∧ vs = dn ++ rest ∧ k = rest.length + 1 ∧ h'.IsListIter s.heap.objs.size l dn.length ∧ Fr h₀ env.locals h' m' ∧ News h₀ env.locals h' ((s.heap.objs.size, oI) :: led) ∧ (∀ p ∈ led, p.1 ≠ s.heap.objs.size) ∧ J dn m' led) ?_ (vs.length + 1)
    ⟨_, s.toks, m, news, [], vs, _, rfl, rfl, rfl, ⟨_, Heap.get?_push_size _ rfl, rfl, rfl⟩, F.push _, N.push F _, fun p hp => Nat.ne_of_lt (Heap.lt_size (N p hp).1), h0⟩
  rintro k s' ⟨h', tk, m', led, dn, rest, oI, rfl, hv, rfl, hit, F', N', hne, hJ⟩
  have hl' : h'.IsList l vs.toArray := ⟨_, (N' _ (.tail _ (hJl _ _ _ hJ))).1, rfl, n, rfl⟩
  cases rest with
  | nil =>
    refine wpAny_pyNext_list_end hh hit hl' (by rw [hv]; simp) fun h₁ he => ?_
    have hv' : dn = vs := by rw [hv, List.append_nil]
    subst hv'
    exact done m' led h₁ tk hJ (Fr.sameBut F' he hLI hnI) fun p hp => ⟨he _ _ (hne p hp) (N' p (.tail _ hp)).1, (N' p (.tail _ hp)).2⟩
  | cons v rest =>
    refine wpAny_pyNext_list_item hit hl' (x := v) (by rw [hv]; simp) fun h₁ hit₁ hs₁ => ?_
    have F₁ : Fr h₀ env.locals h₁ m' := Fr.sameBut F' hs₁.extBut hLI hnI
    refine wpAny_assign_Name (wpAny_storeName_local hx F₁.ns (fun h₂ hn₂ hs₂ => ?_) hp)
    have F₂ := F₁.set hn₂ hs₂
    have hit₂ : h₂.IsListIter s.heap.objs.size l (dn.length + 1) := hit₁.at fun o e => (hs₂.2 _ (Ne.symm hLI)).trans e
    obtain ⟨oI₂, ho₂, _⟩ := id hit₂
    have N₂ : News h₀ env.locals h₂ ((s.heap.objs.size, oI₂) :: led) := fun p hp => by
      rcases List.mem_cons.mp hp with rfl | hp
      · exact ⟨ho₂, Ne.symm hLI, hnI⟩
      · have z := N' p (.tail _ hp)
        exact ⟨(hs₂.2 _ z.2.1).trans (hs₁.extBut _ _ (hne p hp) z.1), z.2⟩
    refine wpH_mono (turn s.heap.objs.size oI₂ dn v rest m' led h₂ (tk + 1) hv hJ (fun p hp => Heap.lt_size (N p hp).1) hne F₂ N₂) (fun f s₃ h₃ => ?_) fun _ _ e => e
    have fin : (∃ h' tk m' led', s₃ = { s with heap := h', toks := tk } ∧ Fr h₀ env.locals h' m' ∧ News h₀ env.locals h' ((s.heap.objs.size, oI₂) :: led') ∧ (∀ p ∈ led', p.1 ≠ s.heap.objs.size) ∧ J (dn ++ [v]) m' led') →
        ∃ mm, mm < (v :: rest).length + 1 ∧ ∃ h' tk m' led dn rest oI, s₃ = { s with heap := h', toks := tk } ∧ vs = dn ++ rest ∧ mm = rest.length + 1 ∧ h'.IsListIter s.heap.objs.size l dn.length ∧ Fr h₀ env.locals h' m' ∧ News h₀ env.locals h' ((s.heap.objs.size, oI) :: led) ∧ (∀ p ∈ led, p.1 ≠ s.heap.objs.size) ∧ J dn m' led := by
      rintro ⟨h₄, tk₄, m₄, led₄, rfl, F₄, N₄, ne₄, J₄⟩
      refine ⟨rest.length + 1, by simp, h₄, tk₄, m₄, led₄, dn ++ [v], rest, oI₂, rfl, by rw [hv]; simp, rfl, ?_, F₄, N₄, ne₄, J₄⟩
      rw [List.length_append, List.length_singleton]
      exact hit₂.at fun o e => by rw [ho₂] at e; cases e; exact (N₄ _ (.head _)).1
    cases f with
    | ret v => exact h₃
    | brk => exact h₃
    | next => exact fin h₃
    | cont => exact fin h₃
end Mine
end

section
open PySem PySem.W PySem.Calls PyProof.Rows
set_option maxRecDepth 100000
set_option linter.unusedVariables false
namespace Mine
/-- the parts of the law's words, by their code -/
def partN : Nat → List Nat
  | 0 => [32] | 1 => [34] | 2 => [92] | 3 => [120] | 4 => [100, 101, 118] | 5 => [97] | 6 => [97, 108, 112, 104, 97] | 7 => [98] | 8 => [98, 101, 116, 97] | 9 => [99] | 10 => [82, 67] | 11 => [114, 99] | 12 => [57] | 13 => [49, 48] | 14 => [112] | 15 => [112, 108] | _ => []
def stage : Nat → Int
  | 4 => 10 | 5 => 20 | 6 => 20 | 7 => 30 | 8 => 30 | 9 => 40 | 10 => 50 | 11 => 50 | 12 => 100 | 13 => 100 | 14 => 200 | 15 => 200 | _ => 0
/-- a version's ranks -/
inductive RanksAre : List Value → List Nat → Prop
  | nil : RanksAre [] []
  | num {c : Nat} {n : Int} {t t' : Tok} {vs : List Value} {cs : List Nat} : (c = 12 ∧ n = 9) ∨ (c = 13 ∧ n = 10) → RanksAre vs cs → RanksAre (.int 100 t :: .int n t' :: vs) (c :: cs)
  | name {c : Nat} {t t' : Tok} {vs : List Value} {cs : List Nat} : c < 16 → c ≠ 12 → c ≠ 13 → RanksAre vs cs → RanksAre (.int (stage c) t :: .str (ofL (partN c)) t' :: vs) (c :: cs)
theorem RanksAre.append : ∀ {vs cs ws ds}, RanksAre vs cs → RanksAre ws ds → RanksAre (vs ++ ws) (cs ++ ds)
  | _, _, _, _, .nil, h => h
  | _, _, _, _, .num a b, h => .num a (b.append h)
  | _, _, _, _, .name a b c d, h => .name a b c (d.append h)
theorem RanksAre.len : ∀ {vs cs}, RanksAre vs cs → vs.length = 2 * cs.length
  | _, _, .nil => rfl
  | _, _, .num _ b => by simp [b.len]; omega
  | _, _, .name _ _ _ d => by simp [d.len]; omega
/-- what a piece counts -/
inductive PK : List Nat → Option Nat → Prop
  | skip {p : List Nat} : p ∈ [[], [46], [95], [43], [45]] → PK p none
  | num {p : List Nat} {c : Nat} : (p, c) ∈ [([57], 12), ([48, 57], 12), ([49, 48], 13), ([48, 49, 48], 13)] → PK p (some c)
  | name {c : Nat} : c < 16 → c ≠ 12 → c ≠ 13 → PK (partN c) (some c)
inductive PKs : List (List Nat) → List Nat → Prop
  | nil : PKs [] []
  | skip {p r cs} : PK p none → PKs r cs → PKs (p :: r) cs
  | take {p r c cs} : PK p (some c) → PKs r cs → PKs (p :: r) (c :: cs)
theorem StrsAre.len : ∀ {vs xs}, StrsAre vs xs → vs.length = xs.length
  | _, _, .nil => rfl
  | _, _, .cons a => by simp [a.len]
end Mine
namespace Mine
theorem occ_skip {p : List Nat} (h : p ∈ [[], [46], [95], [43], [45]]) : (Builtin.Str.occurrences (Str.ofString "._+-") (ofL p) 0 (Str.ofString "._+-").length 1).isEmpty = false := by
  simp only [List.mem_cons, List.not_mem_nil, or_false] at h
  rcases h with rfl | rfl | rfl | rfl | rfl <;> decide +kernel
theorem occ_num {p : List Nat} {c : Nat} (h : (p, c) ∈ [([57], 12), ([48, 57], 12), ([49, 48], 13), ([48, 49, 48], 13)]) : (Builtin.Str.occurrences (Str.ofString "._+-") (ofL p) 0 (Str.ofString "._+-").length 1).isEmpty = true := by
  simp only [List.mem_cons, List.not_mem_nil, or_false, Prod.mk.injEq] at h
  rcases h with ⟨rfl, rfl⟩ | ⟨rfl, rfl⟩ | ⟨rfl, rfl⟩ | ⟨rfl, rfl⟩ <;> decide +kernel
theorem occ_name {c : Nat} (h : c < 16) : (Builtin.Str.occurrences (Str.ofString "._+-") (ofL (partN c)) 0 (Str.ofString "._+-").length 1).isEmpty = true := by
  have : ∀ d : Fin 16, (Builtin.Str.occurrences (Str.ofString "._+-") (ofL (partN d.val)) 0 (Str.ofString "._+-").length 1).isEmpty = true := by decide +kernel
  exact this ⟨c, h⟩
end Mine
end

section
open PySem PySem.W PySem.Calls PyProof.Rows
set_option maxRecDepth 100000
set_option linter.unusedVariables false
namespace Mine
theorem name_all (c : Nat) (h : c < 16) : (ofL (partN c)).cps.all (· < 128) = true := by
  have : ∀ d : Fin 16, (ofL (partN d.val)).cps.all (· < 128) = true := by decide +kernel
  exact this ⟨c, h⟩
theorem name_len (c : Nat) (h : c < 16) : ((ofL (partN c)).cps.toList.takeWhile (· != 0)).length ≤ 640 := by
  have : ∀ d : Fin 16, ((ofL (partN d.val)).cps.toList.takeWhile (· != 0)).length ≤ 640 := by decide +kernel
  exact this ⟨c, h⟩
theorem name_repr (c : Nat) (h : c < 16) : (reprText (ofL (partN c))).length ≤ sizeLine := by
  have : ∀ d : Fin 16, (reprText (ofL (partN d.val))).length ≤ 100 := by decide +kernel
  exact Nat.le_trans (this ⟨c, h⟩) (by decide)
theorem name_bad : ∀ (c : Nat), c < 16 → c ≠ 12 → c ≠ 13 → (int_private% "readNumeral") 0 10 ((ofL (partN c)).cps.toList.takeWhile (· != 0)) = (int_private% "Numeral.invalid")
  | 0, _, _, _ => rfl | 1, _, _, _ => rfl | 2, _, _, _ => rfl | 3, _, _, _ => rfl | 4, _, _, _ => rfl | 5, _, _, _ => rfl | 6, _, _, _ => rfl | 7, _, _, _ => rfl | 8, _, _, _ => rfl | 9, _, _, _ => rfl | 10, _, _, _ => rfl | 11, _, _, _ => rfl
  | 12, _, h, _ => absurd rfl h | 13, _, _, h => absurd rfl h | 14, _, _, _ => rfl | 15, _, _, _ => rfl | n + 16, h, _, _ => absurd h (by omega)
end Mine
end

section
open PySem PySem.W PySem.Calls PyProof.Rows
set_option maxRecDepth 100000
set_option maxHeartbeats 4000000
set_option linter.unusedVariables false
namespace Mine
local macro_rules | `(tactic| walk_at "getMethod ref") => `(tactic| (k_here; k_dflt (refine split_method (by k_asm) (by k_asm) ?_; k_whole)))
local macro_rules | `(tactic| walk_at "call builtin:re.Pattern.split") => `(tactic| (k_here; k_dflt (refine split_call (by k_asm) (by k_asm) (by k_asm) (by assumption) (by assumption) ?_); intro vs' l' h' tk' hv' F' N' l1'))
local macro_rules | `(tactic| k_all) => `(tactic| exact reSl_ne (by assumption))
local macro_rules | `(tactic| walk_at "call builtin:list.extend") => `(tactic| (k_here; k_dflt (refine extTup (by k_asm) (by k_asm) (by k_mem) (by k_upd) (Nat.le_of_ble_eq_true rfl) (by show _ + 2 ≤ _; omega) ?_); intro h' F' N'))
abbrev cvM (lr : Addr) (x : Str) (u : Tok) (mv mt : Option Value) : Str → Option Value := fun y => if y = S "v" then mv else if y = S "t" then mt else if y = S "result" then some (.ref lr) else if y = S "component_re" then some (.ref 78) else if y = S "version" then some (.str x u) else none
theorem cvM_set {lr : Addr} {x : Str} {u : Tok} {mv mt a b c : Option Value} : (fun y => if y = S "t" then a else if y = S "v" then b else if y = S "v" then c else cvM lr x u mv mt y) = cvM lr x u b a := by
  funext y
  by_cases h1 : y = S "v"
  · subst h1; rfl
  by_cases h2 : y = S "t"
  · subst h2; rfl
  simp only [cvM, if_neg h1, if_neg h2]
theorem cvM_set2 {lr : Addr} {x : Str} {u : Tok} {mv mt a b : Option Value} : (fun y => if y = S "t" then a else if y = S "v" then b else cvM lr x u mv mt y) = cvM lr x u b a := by
  funext y
  by_cases h1 : y = S "v"
  · subst h1; rfl
  by_cases h2 : y = S "t"
  · subst h2; rfl
  simp only [cvM, if_neg h1, if_neg h2]
abbrev stagesD : List (PyData × PyData) := [(PyData.str { cps := #[100, 101, 118] }, PyData.int 10), (PyData.str { cps := #[97, 108, 112, 104, 97] }, PyData.int 20), (PyData.str { cps := #[97] }, PyData.int 20), (PyData.str { cps := #[98, 101, 116, 97] }, PyData.int 30), (PyData.str { cps := #[98] }, PyData.int 30), (PyData.str { cps := #[99] }, PyData.int 40), (PyData.str { cps := #[82, 67] }, PyData.int 50), (PyData.str { cps := #[114, 99] }, PyData.int 50), (PyData.str { cps := #[112, 108] }, PyData.int 200), (PyData.str { cps := #[112] }, PyData.int 200)]
theorem stage_eq : ∀ (c : Nat), c < 16 → c ≠ 12 → c ≠ 13 → (Spec.lookup (PyData.str (ofL (partN c))) stagesD).getD (PyData.int 0) = PyData.int (stage c)
  | 0, _, _, _ => rfl | 1, _, _, _ => rfl | 2, _, _, _ => rfl | 3, _, _, _ => rfl | 4, _, _, _ => rfl | 5, _, _, _ => rfl | 6, _, _, _ => rfl | 7, _, _, _ => rfl | 8, _, _, _ => rfl | 9, _, _, _ => rfl | 10, _, _, _ => rfl | 11, _, _, _ => rfl
  | 12, _, h, _ => absurd rfl h | 13, _, _, h => absurd rfl h | 14, _, _, _ => rfl | 15, _, _, _ => rfl | n + 16, h, _, _ => absurd h (by omega)
theorem stage_is {v : Value} {c : Nat} (h1 : c < 16) (h2 : c ≠ 12) (h3 : c ≠ 13) (h : PyProof.V.Flat v ((Spec.lookup (PyData.str (ofL (partN c))) stagesD).getD (PyData.int 0))) : ∃ t, v = .int (stage c) t := by
  rw [stage_eq c h1 h2 h3] at h
  exact PyProof.V.Flat.int_inv h
theorem cv_c {w : World} {b₀ : Heap} {dp un : Nat} {gd : Option (List Code)} {outer : List Env} {s : Shared} {R : Result → Shared → Prop}
    {x : Str} {u : Tok} {r : List (List Nat)} {cs : List Nat} (hsp : Sp x.cps.toList r) (hpk : PKs r cs) (hsz : x.cps.size ≤ 1000000) (hcl : cs.length ≤ 1000)
    (G : Gd w b₀ outer s.heap []) (hdp : dp + 10 < recursionLimit) (hun : un + 100 < cLine)
    (ret : ∀ h' tk l its n, ModF outer [] s.heap h' → s.heap.get? l = none → h'.get? l = some (listOf its n) → RanksAre its.toList cs → R (.ok (.ret (.ref l))) { s with heap := h', toks := tk }) :
    codeH (model PR w) (Aw none dp outer gd un) (.call (.ref 86) ⟨[.str x u], []⟩) R s := by
  refine' enterH (binds := [(S "version", .str x u)]) (fps := []) (Φ := fun v' h' => Ex3 fun l its n => An4 (v' = .ref l) (s.heap.get? l = none) (h'.get? l = some (listOf its n)) (RanksAre its.toList cs)) G ?hfp ?ho ?hcd ?hr ?hb ?hl ?body ?ret ?c1 ?c2 ?c3 ?c4
  case ho => k_dflt k_is
  case hcd => k_dflt k_is
  case hr => omega
  case hb => exact BindsTo.of_eq rfl
  case hl => exact locs rfl
  case c1 => rfl
  case c2 => rfl
  case c3 => rfl
  case c4 => decide
  · intro q hq; cases hq
  · intro p loose mean mg mb g L' h₁ frs fs SF st F N X T l1 l2 l3 hg
    clear l1 l3
    simp only [List.nil_append] at N
    refine h_cons (wpH_any ?_)
    k_steps
    refine h_cons (wpH_any ?_)
    k_steps
    dsimp only
    refine h_cons (for_openH ?_ (by intro _; rfl))
    k_steps
    rename_i lr _ hlr _ _ _ vs ll h₄ tk₂ hv F₄ N₄ hll
    have hfr : ∀ q ∈ frs, q.1 < lr := fun q hq => hlr (q.1, { q.2 with slots := fs q.1 }) (List.mem_map.mpr ⟨q, hq, rfl⟩)
    have hfl : ∀ q ∈ frs, q.1 < ll := fun q hq => hll (q.1, { q.2 with slots := fs q.1 }) (.tail _ (List.mem_map.mpr ⟨q, hq, rfl⟩))
    have hrl := ltN (show lr < ll from hll _ (.head _))
    refine forAtH_list (vs := vs) (n := 0) (fun dn m led => Ex8 fun mv mt its k f csd r2 cs2 => An6 (m = cvM lr x u mv mt) (led = (ll, listOf vs.toArray 0) :: (lr, listOf (its : List Value).toArray k) :: reSl f frs) (RanksAre its csd) (StrsAre (vs.drop dn.length) (r2.map ofL)) (PKs r2 cs2) (csd ++ cs2 = cs)) F₄ N₄ ?h0 ?hJl ?turn ?done rfl rfl rfl
    case h0 =>
      refine ⟨none, none, [], 0, fs, [], r, cs, ?_, rfl, .nil, hv, hpk, rfl⟩
      funext y
      by_cases h1 : y = S "result"
      · subst h1; rfl
      by_cases h2 : y = S "component_re"
      · subst h2; rfl
      by_cases h3 : y = S "version"
      · subst h3; rfl
      by_cases h4 : y = S "v"
      · subst h4; rfl
      by_cases h5 : y = S "t"
      · subst h5; rfl
      simp only [cvM, List.reverse_cons, List.reverse_nil, List.nil_append, List.lookup, beq_eq_false_iff_ne.mpr h3, if_neg h1, if_neg h2, if_neg h3, if_neg h4, if_neg h5]
    case hJl => rintro _ _ _ ⟨_, _, _, _, _, _, _, _, _, rfl, _⟩; exact .head _
    case turn =>
      rintro I oI dn v rest m₁ led h tk hvs ⟨mv, mt, its, k, f, csd, r2, cs2, rfl, rfl, hra, hst, hpk2, hcs⟩ hltI hneI F N
      have hI1 := ltN (show ll < I from hltI _ (.head _))
      have hI2 := ltN (show lr < I from hltI _ (.tail _ (.head _)))
      have hd : vs.drop dn.length = v :: rest := by rw [hvs]; simp
      rw [hd] at hst
      have hfI : ∀ q ∈ frs, q.1 ≠ I := fun q hq => hneI (q.1, { q.2 with slots := f q.1 }) (.tail _ (.tail _ (List.mem_map.mpr ⟨q, hq, rfl⟩)))
      clear hltI hneI F₄ N₄ hll hlr ret G
      dsimp only
      obtain ⟨pp, r2', tt, rfl, rfl, hst'⟩ : ∃ pp r2' tt, r2 = pp :: r2' ∧ v = .str (ofL pp) tt ∧ StrsAre rest (r2'.map ofL) := by
        cases r2 with
        | nil => cases hst
        | cons pp r2' => cases hst with | cons hs => exact ⟨pp, r2', _, rfl, rfl, hs⟩
      have hd' : vs.drop (dn ++ [Value.str (ofL pp) tt]).length = rest := by rw [hvs]; simp
      clear hst hd
      have hil : its.length ≤ 2000 := by have := hra.len; have h2 : csd.length ≤ cs.length := by rw [← hcs]; simp
                                         omega
      refine opqH fun QQ hQQ => ?_
      refine h_cons (h_if ?_)
      k_steps
      · rename_i hocc
        cases hpk2 with
        | skip hk hrest => cases hk with | skip hm => rw [occ_skip hm] at hocc; cases hocc
        | take hk hrest =>
        rename_i c cs2
        clear hocc
        refine h_cons (h_try ?_)
        refine h_cons (h_assign (h_call ?_))
        k_steps
        refine h_withT ?_
        k_steps
        cases hk with
        | num hm =>
          simp only [List.mem_cons, List.not_mem_nil, or_false, Prod.mk.injEq] at hm
          obtain ⟨n, hn, h1, h2, h3, h4⟩ : ∃ n : Int, ((c = 12 ∧ n = 9) ∨ (c = 13 ∧ n = 10)) ∧ (ofL pp).cps.all (· < 128) = true ∧ ((ofL pp).cps.toList.takeWhile (· != 0)).length ≤ 640 ∧ (int_private% "readNumeral") 0 10 ((ofL pp).cps.toList.takeWhile (· != 0)) = (int_private% "Numeral.value") n ∧ (((ofL pp).cps.toList.takeWhile (· != 0)).length == (ofL pp).cps.toList.length) = true := by
            rcases hm with ⟨rfl, rfl⟩ | ⟨rfl, rfl⟩ | ⟨rfl, rfl⟩ | ⟨rfl, rfl⟩
            · exact ⟨9, .inl ⟨rfl, rfl⟩, by decide +kernel, by decide +kernel, by rfl, by decide +kernel⟩
            · exact ⟨9, .inl ⟨rfl, rfl⟩, by decide +kernel, by decide +kernel, by rfl, by decide +kernel⟩
            · exact ⟨10, .inr ⟨rfl, rfl⟩, by decide +kernel, by decide +kernel, by rfl, by decide +kernel⟩
            · exact ⟨10, .inr ⟨rfl, rfl⟩, by decide +kernel, by decide +kernel, by rfl, by decide +kernel⟩
          clear hm
          refine wpH_any (int_ok h1 h2 h3 h4 ?_)
          clear h1 h2 h3 h4
          k_steps
          refine h_cons (wpH_any ?_)
          k_steps
          refine h_nil ?_
          dsimp only
          k_steps
          refine h_cons (wpH_any ?_)
          k_steps
          rename_i F' N'
          refine h_nil (h_nil ?_)
          refine hQQ _ _ ?_
          refine TurnEnd.of (.inl rfl) F' (fun q hq => N' q (.tail _ hq)) ?_ ?_
          · intro q hq
            rcases List.mem_cons.mp hq with rfl | hq
            · exact Nat.ne_of_lt hI1
            rcases List.mem_cons.mp hq with rfl | hq
            · exact Nat.ne_of_lt hI2
            obtain ⟨a, ha, rfl⟩ := List.mem_map.mp hq
            exact hfI a ha
          · refine ⟨_, _, _, _, f, csd ++ [c], r2', cs2, cvM_set, rfl, hra.append (.num hn .nil), ?_, hrest, by rw [← hcs]; simp⟩
            rw [hd']; exact hst'
        | name h16 h12 h13 =>
          refine int_H rfl (name_all c h16) (name_bad c h16 h12 h13) (name_len c h16) (name_repr c h16) fun h' tk' e hx => ?_
          refine caughtHere (ex := [(I, oI), (ll, listOf vs.toArray 0), (lr, listOf its.toArray k)]) SF st F N hx X (topRead_of T) (by k_dflt k_is) ?_ ?_ rfl rfl (by passes_own)
          · intro q hq r hr
            simp only [List.mem_cons, List.not_mem_nil, or_false] at hq
            rcases hq with rfl | rfl | rfl
            · exact Ne.symm (hfI r hr)
            · exact Nat.ne_of_gt (hfl r hr)
            · exact Nat.ne_of_gt (hfr r hr)
          · intro h₂ f₂ F₂ N₂
            simp only [List.cons_append, List.nil_append] at N₂
            clear N F hx
            k_steps
            rename_i vst hfl h₅ F₅ N₅
            obtain ⟨tst, rfl⟩ := stage_is h16 h12 h13 hfl
            dsimp only
            refine h_cons (wpH_any ?_)
            k_steps
            rename_i F' N'
            refine h_nil (h_nil ?_)
            refine hQQ _ _ ?_
            refine TurnEnd.of (.inl rfl) F' (fun q hq => N' q (.tail _ hq)) ?_ ?_
            · intro q hq
              rcases List.mem_cons.mp hq with rfl | hq
              · exact Nat.ne_of_lt hI1
              rcases List.mem_cons.mp hq with rfl | hq
              · exact Nat.ne_of_lt hI2
              obtain ⟨a, ha, rfl⟩ := List.mem_map.mp hq
              exact hfI a ha
            · refine ⟨_, _, _, _, f₂, csd ++ [c], r2', cs2, cvM_set2, rfl, hra.append (.name h16 h12 h13 .nil), ?_, hrest, by rw [← hcs]; simp⟩
              rw [hd']; exact hst'
      · rename_i hocc
        cases hpk2 with
        | take hk hrest => cases hk with
          | num hm => rw [occ_num hm] at hocc; cases hocc
          | name hm _ _ => rw [occ_name hm] at hocc; cases hocc
        | skip hk hrest =>
        refine h_nil ?_
        refine h_nil ?_
        refine hQQ _ _ ?_
        refine TurnEnd.of (.inl rfl) F N ?_ ?_
        · intro q hq
          rcases List.mem_cons.mp hq with rfl | hq
          · exact Nat.ne_of_lt hI1
          rcases List.mem_cons.mp hq with rfl | hq
          · exact Nat.ne_of_lt hI2
          obtain ⟨a, ha, rfl⟩ := List.mem_map.mp hq
          exact hfI a ha
        · refine ⟨some (.str (ofL pp) tt), mt, its, k, f, csd, r2', cs2, ?_, rfl, hra, ?_, hrest, hcs⟩
          · funext y
            by_cases h1 : y = S "v"
            · subst h1; rfl
            · simp only [cvM, if_neg h1]
          · rw [hd']; exact hst'
    case done =>
      rintro m₁ led h tk ⟨mv, mt, its, k, f, csd, r2, cs2, rfl, rfl, hra, hst, hpk2, hcs⟩ F N
      rw [List.drop_length] at hst
      have : r2 = [] := by cases r2 with
        | nil => rfl
        | cons a b => cases hst
      subst this
      cases hpk2
      rw [List.append_nil] at hcs
      subst hcs
      dsimp only
      refine h_cons (wpH_any ?_)
      k_steps
      refine EndsF.of F N (f := f) (fun q hq => .tail _ (.tail _ hq)) ⟨lr, its.toArray, k, rfl, ?_, (N _ (.tail _ (.head _))).1, hra⟩
      have hgl := (N _ (.tail _ (.head _))).2.2
      cases e : s.heap.get? lr with
      | none => rfl
      | some o =>
        rw [hg lr o e (by simp) (fun hm => ?_)] at hgl
        · cases hgl
        · rw [← SF.adr] at hm
          obtain ⟨q, hq, hqe⟩ := List.mem_map.mp hm
          exact absurd hqe (Nat.ne_of_lt (hfr q hq))
  · rintro v' h' tk hm ⟨l, its, n, rfl, hl, a, b⟩
    exact ret h' tk l its n hm hl a b
end Mine
end

section
open PySem PySem.W PySem.Calls PyProof.Rows
open PySem.AutoSeq1 (wpAny_loadPart')
open PySem.MeetsSeq PySem.MeetsSeq3
set_option maxRecDepth 100000
set_option linter.unusedVariables false
set_option maxHeartbeats 2000000
namespace Mine
def Rich (op : CmpOp) (x y : Value) (b : Bool) : Prop :=
  ∀ (prog : Program) (w : World) (A : Around) (E : Value → Shared → Prop) (s : Shared) (Q : Value → Shared → Prop), Q (.bool b) s → wpAny (model prog w) A (richCompare op x y) Q E s
theorem Rich.int_lt (a b : Int) (t u : Tok) : Rich .Lt (.int a t) (.int b u) (decide (a < b)) := fun _ _ _ _ s _ h =>
  richCompare_gives (op := .Lt) (typeIs_int s _ t) (typeIs_int s _ u) F.slot_int_lt F.entry_int_lt (F.args_int_lt_2 _ _) (gives_int_lt _ _ t u) (fun x => nomatch x) h
theorem Rich.int_le (a b : Int) (t u : Tok) : Rich .LtE (.int a t) (.int b u) (decide (a ≤ b)) := fun _ _ _ _ s _ h =>
  richCompare_gives (op := .LtE) (typeIs_int s _ t) (typeIs_int s _ u) F.slot_int_le F.entry_int_le (F.args_int_le_2 _ _) (gives_int_le _ _ t u) (fun x => nomatch x) h
theorem Rich.str_lt (a b : Str) (t u : Tok) : Rich .Lt (.str a t) (.str b u) (decide (a.cps.toList < b.cps.toList)) := fun _ _ _ _ s _ h =>
  richCompare_gives (op := .Lt) (typeIs_str s _ t) (typeIs_str s _ u) F.slot_str_lt F.entry_str_lt (F.args_str_lt_2 _ _) (gives_str_lt _ _ t u) (by simp [Made.takes]) h
def opOf (st : Bool) : CmpOp := if st then .Lt else .LtE
inductive Cmp (st : Bool) : List Value → List Value → Bool → Prop
  | nil : Cmp st [] [] (!st)
  | le {y ys} : Cmp st [] (y :: ys) true
  | ri {x xs} : Cmp st (x :: xs) [] false
  | eq {x xs y ys b} : EqGives x y true → Cmp st xs ys b → Cmp st (x :: xs) (y :: ys) b
  | ne {x xs y ys b} : EqGives x y false → Rich (opOf st) x y b → Cmp st (x :: xs) (y :: ys) b
theorem cmp_loop {st : Bool} {xs ys : List Value} {c : Bool} (hc : Cmp st xs ys c) (l b : Addr) (n n2 : Nat) : ∀ (p q : List Value), p.length = q.length →
    Meets (Builtin.«list.__eq__.loop» ⟨[.ref l, .ref b, rawInt p.length, rawInt (if st then 0 else 1)], []⟩)
      (fun _ R s => s.heap.get? l = some (listOf (p ++ xs).toArray n) ∧ s.heap.get? b = some (listOf (q ++ ys).toArray n2) ∧ R (.ok (.ret (.bool c))) s) := by
  induction hc with
  | nil =>
    intro p q hpq prog w A R s h
    obtain ⟨hp, g, d, tk, os⟩ := s; obtain ⟨hl, hb, h⟩ := h
    cases st <;> (
      wp_walk using wpAny_loadPart' hl, wpAny_loadPart' hb
      have hi1 : (p ++ ([] : List Value)).toArray[((p.length : Nat) : Int).toNat]? = none := by simp
      rw [hi1]
      wp_walk using wpAny_loadPart' hl, wpAny_loadPart' hb
      first
        | (show R (.ok (.ret (.bool (decide ((p ++ ([] : List Value)).toArray.size < (q ++ ([] : List Value)).toArray.size))))) _; simpa [hpq] using h)
        | (show R (.ok (.ret (.bool (decide ((p ++ ([] : List Value)).toArray.size ≤ (q ++ ([] : List Value)).toArray.size))))) _; simpa [hpq] using h))
  | @le y ys =>
    intro p q hpq prog w A R s h
    obtain ⟨hp, g, d, tk, os⟩ := s; obtain ⟨hl, hb, h⟩ := h
    cases st <;> (
      wp_walk using wpAny_loadPart' hl, wpAny_loadPart' hb
      have hi1 : (p ++ ([] : List Value)).toArray[((p.length : Nat) : Int).toNat]? = none := by simp
      rw [hi1]
      wp_walk using wpAny_loadPart' hl, wpAny_loadPart' hb
      first
        | (show R (.ok (.ret (.bool (decide ((p ++ ([] : List Value)).toArray.size < (q ++ (y :: ys)).toArray.size))))) _; simpa [hpq] using h)
        | (show R (.ok (.ret (.bool (decide ((p ++ ([] : List Value)).toArray.size ≤ (q ++ (y :: ys)).toArray.size))))) _; simpa [hpq] using h))
  | @ri x xs =>
    intro p q hpq prog w A R s h
    obtain ⟨hp, g, d, tk, os⟩ := s; obtain ⟨hl, hb, h⟩ := h
    cases st <;> (
      wp_walk using wpAny_loadPart' hl, wpAny_loadPart' hb
      have hi1 : (p ++ (x :: xs)).toArray[((p.length : Nat) : Int).toNat]? = some x := by simp
      have hi2 : (q ++ ([] : List Value)).toArray[((p.length : Nat) : Int).toNat]? = none := by simp [hpq]
      rw [hi1, hi2]
      wp_walk using wpAny_loadPart' hl, wpAny_loadPart' hb
      first
        | (show R (.ok (.ret (.bool (decide ((p ++ (x :: xs)).toArray.size < (q ++ ([] : List Value)).toArray.size))))) _
           have e : decide ((p ++ (x :: xs)).toArray.size < (q ++ ([] : List Value)).toArray.size) = false := by simp [hpq]
           rw [e]; exact h)
        | (show R (.ok (.ret (.bool (decide ((p ++ (x :: xs)).toArray.size ≤ (q ++ ([] : List Value)).toArray.size))))) _
           have e : decide ((p ++ (x :: xs)).toArray.size ≤ (q ++ ([] : List Value)).toArray.size) = false := by simp [hpq]
           rw [e]; exact h))
  | @eq x xs y ys bb he _ ih =>
    intro p q hpq prog w A R s h
    obtain ⟨hp, g, d, tk, os⟩ := s; obtain ⟨hl, hb, h⟩ := h
    have ih' := ih (p ++ [x]) (q ++ [y]) (by simp [hpq])
    cases st <;> (
      wp_walk using wpAny_loadPart' hl, wpAny_loadPart' hb
      have hi1 : (p ++ (x :: xs)).toArray[((p.length : Nat) : Int).toNat]? = some x := by simp
      have hi2 : (q ++ (y :: ys)).toArray[((p.length : Nat) : Int).toNat]? = some y := by simp [hpq]
      rw [hi1, hi2]
      refine wpAny_bind (he prog w _ _ _ _ ?_)
      wp_walk
      have hcc : ((p.length : Int) + 1) = (((p ++ [x]).length : Nat) : Int) := by simp
      rw [hcc]
      exact ⟨plainId_quiet plain_eq_loop _, codeAny_builtin entry_eq_loop (by
        rw [Around.under_plainId plain_eq_loop _]
        exact ih' prog w A R _ ⟨by rw [hl]; simp, by rw [hb]; simp, h⟩)⟩)
  | @ne x xs y ys bb he hr =>
    intro p q hpq prog w A R s h
    obtain ⟨hp, g, d, tk, os⟩ := s; obtain ⟨hl, hb, h⟩ := h
    cases st <;> (
      wp_walk using wpAny_loadPart' hl, wpAny_loadPart' hb
      have hi1 : (p ++ (x :: xs)).toArray[((p.length : Nat) : Int).toNat]? = some x := by simp
      have hi2 : (q ++ (y :: ys)).toArray[((p.length : Nat) : Int).toNat]? = some y := by simp [hpq]
      rw [hi1, hi2]
      refine wpAny_bind (he prog w _ _ _ _ ?_)
      wp_walk using wpAny_loadPart' hl, wpAny_loadPart' hb
      rw [hi1, hi2]
      refine wpAny_bind (hr prog w _ _ _ _ ?_)
      wp_walk
      exact h)
theorem list_lt {xs ys : List Value} {c : Bool} (hc : Cmp true xs ys c) (l b : Addr) (n n2 : Nat) :
    Meets (Builtin.«list.__lt__» ⟨[.ref l, .ref b], []⟩) (fun _ R s => s.heap.get? l = some (listOf xs.toArray n) ∧ s.heap.get? b = some (listOf ys.toArray n2) ∧ R (.ok (.ret (.bool c))) s) := by
  intro prog w A R s h
  obtain ⟨hp, g, d, tk, os⟩ := s; obtain ⟨hl, hb, h⟩ := h
  have f3 := AutoSeq1.sub_list_list
  wp_walk using wpAny_loadPart' hl, wpAny_loadPart' hb
  exact ⟨plainId_quiet plain_eq_loop _, codeAny_builtin entry_eq_loop (by
    rw [Around.under_plainId plain_eq_loop _]
    exact cmp_loop hc l b n n2 [] [] rfl prog w A R _ ⟨hl, hb, h⟩)⟩
theorem list_le {xs ys : List Value} {c : Bool} (hc : Cmp false xs ys c) (l b : Addr) (n n2 : Nat) :
    Meets (Builtin.«list.__le__» ⟨[.ref l, .ref b], []⟩) (fun _ R s => s.heap.get? l = some (listOf xs.toArray n) ∧ s.heap.get? b = some (listOf ys.toArray n2) ∧ R (.ok (.ret (.bool c))) s) := by
  intro prog w A R s h
  obtain ⟨hp, g, d, tk, os⟩ := s; obtain ⟨hl, hb, h⟩ := h
  have f3 := AutoSeq1.sub_list_list
  wp_walk using wpAny_loadPart' hl, wpAny_loadPart' hb
  exact ⟨plainId_quiet plain_eq_loop _, codeAny_builtin entry_eq_loop (by
    rw [Around.under_plainId plain_eq_loop _]
    exact cmp_loop hc l b n n2 [] [] rfl prog w A R _ ⟨hl, hb, h⟩)⟩
end Mine
end

section
open PySem PySem.W PySem.Calls PyProof.Rows
open PySem.MeetsSeq
set_option maxRecDepth 100000
set_option linter.unusedVariables false
namespace Mine
def ltB : List Nat → List Nat → Bool
  | _, [] => false
  | [], _ :: _ => true
  | a :: as, b :: bs => if a = b then ltB as bs else decide (a < b)
theorem stage_fin : ∀ c d : Fin 16, stage c.val ≠ stage d.val → decide (stage c.val < stage d.val) = decide (c.val < d.val) := by decide +kernel
theorem stage_num : ∀ c : Fin 16, stage c.val = 100 → c.val = 12 ∨ c.val = 13 := by decide +kernel
theorem part_fin : ∀ c d : Fin 16, stage c.val = stage d.val → c.val ≠ d.val → (ofL (partN c.val) == ofL (partN d.val)) = false ∧ ((c.val ≠ 12 ∧ c.val ≠ 13 ∧ d.val ≠ 12 ∧ d.val ≠ 13) → decide ((ofL (partN c.val)).cps.toList < (ofL (partN d.val)).cps.toList) = decide (c.val < d.val)) := by decide +kernel
theorem eqI {a b : Int} {t u : Tok} (h : a = b) : EqGives (.int a t) (.int b u) true := by
  have := EqGives.int a b t u; rwa [beq_iff_eq.mpr h] at this
theorem neI {a b : Int} {t u : Tok} (h : a ≠ b) : EqGives (.int a t) (.int b u) false := by
  have := EqGives.int a b t u; rwa [beq_eq_false_iff_ne.mpr h] at this
theorem eqS {a : Str} {t u : Tok} : EqGives (.str a t) (.str a u) true := by
  have := eqGives_str a a t u; rwa [beq_self_eq_true] at this
theorem neS {a b : Str} {t u : Tok} (h : (a == b) = false) : EqGives (.str a t) (.str b u) false := by
  have := eqGives_str a b t u; rwa [h] at this
theorem ranks_cmp : ∀ {vs cs ws ds}, RanksAre vs cs → RanksAre ws ds → Cmp true vs ws (ltB cs ds)
  | _, _, _, _, .nil, .nil => .nil
  | _, _, _, _, .nil, .num _ _ => .le
  | _, _, _, _, .nil, .name _ _ _ _ => .le
  | _, _, _, _, .num _ _, .nil => .ri
  | _, _, _, _, .name _ _ _ _, .nil => .ri
  | _, _, _, _, @RanksAre.num c n t t' vs cs a ra, @RanksAre.num d m u u' ws ds b rb => by
    refine .eq (eqI rfl) ?_
    by_cases e : c = d
    · subst e
      rw [show ltB (c :: cs) (c :: ds) = ltB cs ds by simp [ltB]]
      exact .eq (eqI (by omega)) (ranks_cmp ra rb)
    · rw [show ltB (c :: cs) (d :: ds) = decide (n < m) by simp [ltB, e]; omega]
      exact .ne (neI (by omega)) (Rich.int_lt _ _ _ _)
  | _, _, _, _, @RanksAre.num c n t t' vs cs a ra, @RanksAre.name d u u' ws ds h1 h2 h3 rb => by
    have hc : stage c = 100 ∧ c < 16 := by rcases a with ⟨rfl, _⟩ | ⟨rfl, _⟩ <;> decide
    have hd : stage d ≠ 100 := fun e => by rcases stage_num ⟨d, h1⟩ e with e | e <;> contradiction
    have hcd : c ≠ d := fun e => by subst e; exact hd hc.1
    have z := stage_fin ⟨c, hc.2⟩ ⟨d, h1⟩ (by show stage c ≠ stage d; rw [hc.1]; exact Ne.symm hd)
    simp only [hc.1] at z
    rw [show ltB (c :: cs) (d :: ds) = decide ((100 : Int) < stage d) by rw [z]; simp [ltB, hcd]]
    exact .ne (neI (Ne.symm hd)) (Rich.int_lt _ _ _ _)
  | _, _, _, _, @RanksAre.name c t t' vs cs h1 h2 h3 ra, @RanksAre.num d m u u' ws ds b rb => by
    have hd : stage d = 100 ∧ d < 16 := by rcases b with ⟨rfl, _⟩ | ⟨rfl, _⟩ <;> decide
    have hc : stage c ≠ 100 := fun e => by rcases stage_num ⟨c, h1⟩ e with e | e <;> contradiction
    have hcd : c ≠ d := fun e => by subst e; exact hc hd.1
    have z := stage_fin ⟨c, h1⟩ ⟨d, hd.2⟩ (by show stage c ≠ stage d; rw [hd.1]; exact hc)
    simp only [hd.1] at z
    rw [show ltB (c :: cs) (d :: ds) = decide (stage c < (100 : Int)) by rw [z]; simp [ltB, hcd]]
    exact .ne (neI hc) (Rich.int_lt _ _ _ _)
  | _, _, _, _, @RanksAre.name c t t' vs cs h1 h2 h3 ra, @RanksAre.name d u u' ws ds k1 k2 k3 rb => by
    by_cases e : c = d
    · subst e
      rw [show ltB (c :: cs) (c :: ds) = ltB cs ds by simp [ltB]]
      exact .eq (eqI rfl) (.eq eqS (ranks_cmp ra rb))
    · by_cases q : stage c = stage d
      · have z := part_fin ⟨c, h1⟩ ⟨d, k1⟩ q e
        rw [show ltB (c :: cs) (d :: ds) = decide ((ofL (partN c)).cps.toList < (ofL (partN d)).cps.toList) by rw [z.2 ⟨h2, h3, k2, k3⟩]; simp [ltB, e]]
        exact .eq (eqI q) (.ne (neS z.1) (Rich.str_lt _ _ _ _))
      · have z := stage_fin ⟨c, h1⟩ ⟨d, k1⟩ q
        rw [show ltB (c :: cs) (d :: ds) = decide (stage c < stage d) by rw [z]; simp [ltB, e]]
        exact .ne (neI q) (Rich.int_lt _ _ _ _)
theorem ints_cmp : ∀ {vs ws : List Value} {cs ds : List Nat}, IntsAre vs (cs.map Int.ofNat) → IntsAre ws (ds.map Int.ofNat) → Cmp false vs ws (!(ltB ds cs))
  | _, _, [], [], .nil, .nil => .nil
  | _, _, [], d :: ds, .nil, .cons _ _ _ => .le
  | _, _, c :: cs, [], .cons _ _ _, .nil => .ri
  | _, _, c :: cs, d :: ds, .cons _ _ a, .cons _ _ b => by
    by_cases e : c = d
    · subst e
      rw [show ltB (c :: ds) (c :: cs) = ltB ds cs by simp [ltB]]
      exact .eq (eqI rfl) (ints_cmp a b)
    · rw [show (!(ltB (d :: ds) (c :: cs))) = decide ((c : Int) ≤ (d : Int)) by
        rw [show ltB (d :: ds) (c :: cs) = decide (d < c) by simp [ltB, Ne.symm e]]
        by_cases q : d < c
        · simp [q]
        · simp [q]; omega]
      exact .ne (neI (fun x => e (Int.ofNat.inj x))) (Rich.int_le _ _ _ _)
section
variable {w : World} {A : Around} {E : Value → Shared → Prop} {s : Shared} {h₀ : Heap} {L a b : Addr} {news : List (Addr × Obj)} {n k : Nat} {vs ws : List Value} {cs ds : List Nat}
theorem ltRanks {Q : Value → Shared → Prop} (N : News h₀ L s.heap news) (ha : (a, listOf vs.toArray n) ∈ news) (hb : (b, listOf ws.toArray k) ∈ news) (ra : RanksAre vs cs) (rb : RanksAre ws ds) (hu : A.units < cLine) (h : Q (.bool (ltB cs ds)) s) :
    wpAny (model PR w) A (compareOp .Lt (.ref a) (.ref b)) Q E s := by
  have za := (N _ ha).1
  have zb := (N _ hb).1
  exact cmp_ofLt (richCompare_meets_room (T := "list") ⟨_, za, rfl⟩ ⟨_, zb, rfl⟩ F.slot_list_lt F.entry_list_lt (F.args_list_lt_2 _ _) (list_lt (ranks_cmp ra rb) a b n k) ⟨za, zb, ⟨(fun x => nomatch x), h⟩⟩ hu)
theorem leInts {Q : Value → Shared → Prop} (za : s.heap.get? a = some (listOf vs.toArray n)) (zb : s.heap.get? b = some (listOf ws.toArray k)) (ra : IntsAre vs (cs.map Int.ofNat)) (rb : IntsAre ws (ds.map Int.ofNat)) (hu : A.units < cLine) (h : Q (.bool (!(ltB ds cs))) s) :
    wpAny (model PR w) A (compareOp .LtE (.ref a) (.ref b)) Q E s :=
  cmp_ofLtE (richCompare_meets_room (T := "list") ⟨_, za, rfl⟩ ⟨_, zb, rfl⟩ F.slot_list_le F.entry_list_le (F.args_list_le_2 _ _) (list_le (ints_cmp ra rb) a b n k) ⟨za, zb, ⟨(fun x => nomatch x), h⟩⟩ hu)
end
end Mine
end

section
open PySem PySem.W PySem.Calls PyProof.Rows
set_option maxRecDepth 100000
set_option linter.unusedVariables false
namespace Mine
def sepN (x : Nat) : Nat := match x / 16 % 4 with | 0 => 46 | 1 => 95 | 2 => 43 | _ => 45
def noughtN (x : Nat) : List Nat := if (x % 16 = 12 ∨ x % 16 = 13) ∧ x / 64 % 2 = 1 then [48] else []
def wordL (x : Nat) : List Nat := sepN x :: (noughtN x ++ partN (x % 16))
def textL (xs : List Nat) : List Nat := xs.flatMap wordL
def codesL (xs : List Nat) : List Nat := xs.map (· % 16)
theorem sep_cases (x : Nat) : sepN x = 46 ∨ sepN x = 95 ∨ sepN x = 43 ∨ sepN x = 45 := by
  unfold sepN; split <;> simp
theorem sep_is (x : Nat) : isSep (sepN x) = true := by
  rcases sep_cases x with h | h | h | h <;> rw [h] <;> rfl
theorem sep_hit (x : Nat) (rest : List Nat) : HitW [sepN x] rest := .inl ⟨_, rfl, sep_is x⟩
theorem sep_skip (x : Nat) : PK [sepN x] none := .skip (by rcases sep_cases x with h | h | h | h <;> rw [h] <;> simp)
theorem part_plain (c : Nat) (h : c < 16) (h1 : c ≠ 12) (h2 : c ≠ 13) : ∀ d ∈ partN c, plainC d := by
  have : ∀ c : Fin 16, c.val ≠ 12 → c.val ≠ 13 → ∀ d ∈ partN c.val, isDig d = false ∧ isSep d = false := by decide +kernel
  exact this ⟨c, h⟩ h1 h2
theorem num_mid (x : Nat) (h : x % 16 = 12 ∨ x % 16 = 13) : (noughtN x ++ partN (x % 16), x % 16) ∈ [([57], 12), ([48, 57], 12), ([49, 48], 13), ([48, 49, 48], 13)] := by
  unfold noughtN
  rcases h with h | h <;> rw [h] <;> by_cases q : x / 64 % 2 = 1 <;> simp [q, partN]
theorem num_dig {p : List Nat} {c : Nat} (h : (p, c) ∈ [([57], 12), ([48, 57], 12), ([49, 48], 13), ([48, 49, 48], 13)]) : p ≠ [] ∧ ∀ d ∈ p, isDig d = true := by
  simp only [List.mem_cons, List.not_mem_nil, or_false, Prod.mk.injEq] at h
  rcases h with ⟨rfl, rfl⟩ | ⟨rfl, rfl⟩ | ⟨rfl, rfl⟩ | ⟨rfl, rfl⟩ <;> decide +kernel
theorem text_head (xs : List Nat) : ∀ c, (textL xs).head? = some c → isDig c = false := by
  cases xs with
  | nil => intro c h; cases h
  | cons x xs => intro c h; cases h; exact sep_notdig (sep_is x)
theorem pieces : ∀ (xs : List Nat) (pend : List Nat) (oc : Option Nat), (∀ c ∈ pend, plainC c) → PK pend oc → ∃ r, Sp (pend ++ textL xs) r ∧ PKs r (oc.toList ++ codesL xs)
  | [], pend, oc, hp, hk => ⟨[pend], by simpa [textL] using Sp.last pend hp, by
      cases oc with
      | none => exact .skip hk .nil
      | some c => exact .take hk .nil⟩
  | x :: xs, pend, oc, hp, hk => by
    have lift : ∀ {r cs}, PKs r cs → PKs (pend :: r) (oc.toList ++ cs) := fun h => by
      cases oc with
      | none => exact .skip hk h
      | some c => exact .take hk h
    by_cases q : x % 16 = 12 ∨ x % 16 = 13
    · have hm := num_mid x q
      obtain ⟨r, hr, hpk⟩ := pieces xs [] none (by simp) (.skip (by simp))
      obtain ⟨hne, hdg⟩ := num_dig hm
      have h1 : Sp ([] ++ ((noughtN x ++ partN (x % 16)) ++ textL xs)) ([] :: (noughtN x ++ partN (x % 16)) :: r) := .hit [] _ _ r (by simp) (.inr ⟨hne, hdg, text_head xs⟩) (by simpa using hr)
      have h2 := Sp.hit pend [sepN x] _ _ hp (sep_hit x _) h1
      refine ⟨_, ?_, lift (.skip (sep_skip x) (.skip (p := []) (.skip (by simp)) (.take (.num hm) hpk)))⟩
      simpa [textL, wordL, codesL] using h2
    · have hlt : x % 16 < 16 := Nat.mod_lt _ (by decide)
      have hno : noughtN x = [] := by unfold noughtN; rw [if_neg (fun h => q h.1)]
      obtain ⟨r, hr, hpk⟩ := pieces xs (partN (x % 16)) (some (x % 16)) (part_plain _ hlt (fun h => q (.inl h)) (fun h => q (.inr h))) (.name hlt (fun h => q (.inl h)) (fun h => q (.inr h)))
      have h2 := Sp.hit pend [sepN x] _ _ hp (sep_hit x _) hr
      refine ⟨_, ?_, lift (.skip (sep_skip x) hpk)⟩
      simpa [textL, wordL, hno] using h2
theorem pieces_of (xs : List Nat) : ∃ r, Sp (textL xs) r ∧ PKs r (codesL xs) := by
  obtain ⟨r, h1, h2⟩ := pieces xs [] none (by simp) (.skip (by simp))
  exact ⟨r, h1, h2⟩
theorem word_len (x : Nat) : (wordL x).length ≤ 8 ∧ 0 < (wordL x).length := by
  have : ∀ c : Fin 16, (partN c.val).length ≤ 5 := by decide +kernel
  have h := this ⟨x % 16, Nat.mod_lt _ (by decide)⟩
  simp only at h
  have : (noughtN x).length ≤ 1 := by unfold noughtN; split <;> simp
  simp [wordL]; omega
theorem text_len : ∀ xs : List Nat, (textL xs).length ≤ 8 * xs.length
  | [] => by simp [textL]
  | x :: xs => by
    have := text_len xs; have := word_len x
    simp only [textL, List.flatMap_cons, List.length_append, List.length_cons] at *; omega
theorem text_ne {xs : List Nat} (h : xs ≠ []) : textL xs ≠ [] := by
  cases xs with
  | nil => exact absurd rfl h
  | cons x xs => simp [textL, wordL]
theorem text_append (xs ys : List Nat) : textL (xs ++ ys) = textL xs ++ textL ys := by simp [textL]
theorem codes_append (xs ys : List Nat) : codesL (xs ++ ys) = codesL xs ++ codesL ys := by simp [codesL]
end Mine
end

section
open PySem PySem.W PySem.Calls PyProof.Rows
set_option maxRecDepth 100000
set_option linter.unusedVariables false
namespace Mine
structure Stand (w : World) (b₀ g : Heap) (outer : List Env) (frs : List (Addr × Obj)) (fp : List Addr) : Prop where
  X : (hd.heap_39 w.params).In b₀
  T : ∃ p loose mean mg mb, Top p loose mean mg mb b₀
  st : b₀.StaysIn g
  SF : ∃ h₁, Frs b₀ outer h₁ frs
  ap : ∀ a ∈ fp, ∀ r ∈ frs, a ≠ r.1
theorem Stand.less {w : World} {b₀ g : Heap} {outer : List Env} {frs : List (Addr × Obj)} {fp fp' : List Addr} (H : Stand w b₀ g outer frs fp) (h : ∀ a ∈ fp', a ∈ fp) : Stand w b₀ g outer frs fp' := ⟨H.X, H.T, H.st, H.SF, fun a ha => H.ap a (h a ha)⟩
section
variable {w : World} {b₀ g h h' : Heap} {outer : List Env} {frs news news' ex : List (Addr × Obj)} {fp fp' : List Addr} {f : Addr → Array (Option Value)} {L a : Addr} {m : Str → Option Value} {name : Str} {scope : Scope} {cd : Value}
theorem gd_here (H : Stand w b₀ g outer frs fp) (F : Fr g L h m) (N : News g L h news) (hs : ∀ p ∈ reSl f frs, p ∈ news) (hfp : ∀ a ∈ fp, ∃ o, (a, o) ∈ news) (hk : scope.kind = .function) :
    Gd w b₀ (envOf name scope L a cd :: outer) h fp := by
  obtain ⟨h₁, S⟩ := H.SF
  have ffh : h.FunFrames b₀ outer := S.now N hs
  have hbL : b₀.get? L = none := by
    cases q : b₀.get? L with
    | none => rfl
    | some o => exact absurd (Nat.lt_of_lt_of_le (Heap.lt_size (H.st L o q)) F.above) (Nat.lt_irrefl _)
  refine ⟨H.X, H.T, fun b o e => F.keep b o (H.st b o e), .cons (by show scope.kind ≠ .module; rw [hk]; decide) rfl F.ns hbL ffh, fun a ha => ?_⟩
  obtain ⟨o, ho⟩ := hfp a ha
  have z := N _ ho
  refine ⟨?_, fun env he => ?_⟩
  · cases q : b₀.get? a with
    | none => rfl
    | some o' => have := H.st a o' q; rw [show g.get? a = none from z.2.2] at this; cases this
  · rcases List.mem_cons.mp he with rfl | he
    · intro e; exact z.2.1 (Option.some.inj e).symm
    · intro e
      have hm : a ∈ frA outer := List.mem_filterMap.mpr ⟨env, he, e⟩
      rw [← S.adr] at hm
      obtain ⟨r, hr, hre⟩ := List.mem_map.mp hm
      exact H.ap a ha r hr hre.symm
theorem fr_mod (F : Fr g L h m) (N : News g L h news) (hfp : ∀ a ∈ fp, ∃ o, (a, o) ∈ news) (hm : Mod fp h h') : Fr g L h' m := by
  obtain ⟨oL, es, ep, hLo, r⟩ := F.ns
  refine ⟨⟨oL, es, ep, hm L oL hLo (fun q => ?_), r⟩, fun b o e => hm b o (F.keep b o e) (fun q => ?_), F.above⟩
  · obtain ⟨o, ho⟩ := hfp L q; exact (N _ ho).2.1 rfl
  · obtain ⟨o', ho⟩ := hfp b q; rw [show g.get? b = none from (N _ ho).2.2] at e; cases e
theorem news_mod (N : News g L h news) (hm : Mod fp h h') (hn : ∀ q ∈ news', (q ∈ news ∧ q.1 ∉ fp) ∨ (h'.get? q.1 = some q.2 ∧ ∃ o, (q.1, o) ∈ news)) : News g L h' news' := by
  intro q hq
  rcases hn q hq with ⟨h1, h2⟩ | ⟨h1, o, h2⟩
  · exact ⟨hm _ _ (N q h1).1 h2, (N q h1).2⟩
  · exact ⟨h1, (N _ h2).2⟩
theorem fr_modF (F : Fr g L h m) (N : News g L h (ex ++ reSl f frs)) (hadr : frs.map (·.1) = frA outer) (hm : ModF (envOf name scope L a cd :: outer) [] h h') : Fr g L h' m := by
  have hfl : frA (envOf name scope L a cd :: outer) = L :: frA outer := by unfold frA; rw [List.filterMap_cons]; rfl
  obtain ⟨oL, es, ep, hLo, r⟩ := F.ns
  obtain ⟨sl, hsl⟩ := hm.frs L (by rw [hfl]; exact .head _) oL hLo
  refine ⟨⟨_, es, ep, hsl, r⟩, fun b o e => hm.keep b o (F.keep b o e) (by simp) (fun q => ?_), F.above⟩
  rw [hfl] at q
  rcases List.mem_cons.mp q with rfl | q
  · exact absurd (Nat.lt_of_lt_of_le (Heap.lt_size e) F.above) (Nat.lt_irrefl _)
  · rw [← hadr] at q
    obtain ⟨r', hr, rfl⟩ := List.mem_map.mp q
    have := (N (r'.1, { r'.2 with slots := f r'.1 }) (List.mem_append_right _ (List.mem_map.mpr ⟨r', hr, rfl⟩))).2.2
    rw [show g.get? r'.1 = none from this] at e; cases e
theorem news_modF (N : News g L h (ex ++ reSl f frs)) (hadr : frs.map (·.1) = frA outer) (hex : ∀ q ∈ ex, ∀ r ∈ frs, q.1 ≠ r.1) (hm : ModF (envOf name scope L a cd :: outer) [] h h') : ∃ f', News g L h' (ex ++ reSl f' frs) := by
  have hfl : frA (envOf name scope L a cd :: outer) = L :: frA outer := by unfold frA; rw [List.filterMap_cons]; rfl
  refine ⟨fun a => ((h'.get? a).getD default).slots, fun q hq => ?_⟩
  rcases List.mem_append.mp hq with hq | hq
  · have z := N q (List.mem_append_left _ hq)
    refine ⟨hm.keep _ _ z.1 (by simp) (fun y => ?_), z.2⟩
    rw [hfl] at y
    rcases List.mem_cons.mp y with y | y
    · exact z.2.1 y
    · rw [← hadr] at y
      obtain ⟨r', hr, e⟩ := List.mem_map.mp y
      exact hex q hq r' hr e.symm
  · obtain ⟨r, hr, rfl⟩ := List.mem_map.mp hq
    have z := N (r.1, { r.2 with slots := f r.1 }) (List.mem_append_right _ (List.mem_map.mpr ⟨r, hr, rfl⟩))
    obtain ⟨sl, hsl⟩ := hm.frs r.1 (by rw [hfl, ← hadr]; exact .tail _ (List.mem_map_of_mem hr)) _ z.1
    refine ⟨?_, z.2⟩
    show h'.get? r.1 = some { r.2 with slots := ((h'.get? r.1).getD default).slots }
    rw [hsl]; rfl
end
section
variable {w : World} {b₀ g : Heap} {outer : List Env} {frs news news' ex : List (Addr × Obj)} {f : Addr → Array (Option Value)} {L a : Addr} {m : Str → Option Value} {name : Str} {scope : Scope} {cd : Value} {s : Shared} {dp un : Nat} {gd : Option (List Code)} {E : Value → Shared → Prop} {Q : Value → Shared → Prop}
  {lx dx pb : Addr} {t1 t2 t3 t4 : Tok} {ln : Int} {lt : Tok} {st : Value} {wt : Tok} {xs : List Value} {n : Nat} {v : Value}
theorem three {P : Addr → Prop} (h1 : P lx) (h2 : P dx) (h3 : P pb) : ∀ a ∈ [lx, dx, pb], P a := fun a ha => by
  simp only [List.mem_cons, List.not_mem_nil, or_false] at ha
  rcases ha with rfl | rfl | rfl <;> assumption
theorem upd_three {g h h' : Heap} {L : Addr} {o1 o2 o3 o3' : Obj} (N : News g L h news) (m1 : (lx, o1) ∈ news) (m2 : (dx, o2) ∈ news) (U : Upd pb o3 o3' news news') (n2 : lx ≠ pb) (n3 : dx ≠ pb)
    (hm : Mod [lx, dx, pb] h h') (e1 : h'.get? lx = some o1) (e2 : h'.get? dx = some o2) (e3 : h'.get? pb = some o3') : News g L h' news' := by
  obtain ⟨pre, post, rfl, rfl, ha, hb⟩ := U.split
  refine news_mod N hm fun q hq => ?_
  have hmem : q ∈ pre ∨ q = (pb, o3') ∨ q ∈ post := by simpa using hq
  have old : (q ∈ pre ∨ q ∈ post) → (q ∈ (pre ++ (pb, o3) :: post) ∧ q.1 ∉ [lx, dx, pb]) ∨ (h'.get? q.1 = some q.2 ∧ ∃ o, (q.1, o) ∈ (pre ++ (pb, o3) :: post)) := fun hq => by
    have hq' : q ∈ (pre ++ (pb, o3) :: post) := by rcases hq with hq | hq <;> simp [hq]
    have hne : q.1 ≠ pb := by rcases hq with hq | hq; exact ha q hq; exact hb q hq
    by_cases y1 : q.1 = lx
    · refine .inr ⟨?_, _, hq'⟩
      have : q.2 = o1 := Option.some.inj ((N q hq').1.symm.trans (y1 ▸ (N _ m1).1))
      rw [y1, this, e1]
    by_cases y2 : q.1 = dx
    · refine .inr ⟨?_, _, hq'⟩
      have : q.2 = o2 := Option.some.inj ((N q hq').1.symm.trans (y2 ▸ (N _ m2).1))
      rw [y2, this, e2]
    exact .inl ⟨hq', by simp [y1, y2, hne]⟩
  rcases hmem with hq | rfl | hq
  · exact old (.inl hq)
  · exact .inr ⟨e3, o3, by simp⟩
  · exact old (.inr hq)
theorem getK (H : Stand w b₀ g outer frs [lx, dx, pb]) (F : Fr g L s.heap m) (N : News g L s.heap news) (hs : ∀ p ∈ reSl f frs, p ∈ news) (m1 : (lx, instObj 69 dx) ∈ news) (m2 : (dx, dictOf (lexD w t1 t2 t3 t4 ln lt st wt pb) 4) ∈ news)
    (U : Upd pb (listOf (v :: xs).toArray n) (listOf xs.toArray (n + 1)) news news') (n1 : lx ≠ dx) (n2 : lx ≠ pb) (n3 : dx ≠ pb) (hz : xs.length < 1000) (hdp : dp + 11 < recursionLimit) (hun : un + 103 < cLine) (hk : scope.kind = .function)
    (h : ∀ h' tk, Fr g L h' m → News g L h' news' → Q v { s with heap := h', toks := tk }) :
    wpAny (model PR w) ((Aw none dp outer gd un).deeper (envOf name scope L a cd)) (call (.ref 59) [.ref lx]) Q E s := by
  have m3 : (pb, listOf (v :: xs).toArray n) ∈ news := by obtain ⟨pre, post, rfl, _⟩ := U.split; simp
  have hfp : ∀ a ∈ [lx, dx, pb], ∃ o, (a, o) ∈ news := three ⟨_, m1⟩ ⟨_, m2⟩ ⟨_, m3⟩
  refine wpAny_call (get_pop (dp := dp + 1) (un := un + 3) (gd_here H F N hs hfp hk) (N _ m1).1 (N _ m2).1 (N _ m3).1 n1 n2 n3 hz (by omega) (by omega) fun h' tk hm e1 e2 e3 => ?_)
  exact h h' tk (fr_mod F N hfp hm) (upd_three N m1 m2 U n2 n3 hm e1 e2 e3)
theorem pushK (H : Stand w b₀ g outer frs [lx, dx, pb]) (F : Fr g L s.heap m) (N : News g L s.heap news) (hs : ∀ p ∈ reSl f frs, p ∈ news) (m1 : (lx, instObj 69 dx) ∈ news) (m2 : (dx, dictOf (lexD w t1 t2 t3 t4 ln lt st wt pb) 4) ∈ news)
    (U : Upd pb (listOf xs.toArray n) (listOf (xs ++ [v]).toArray (n + 1)) news news') (n1 : lx ≠ dx) (n2 : lx ≠ pb) (n3 : dx ≠ pb) (hz : xs.length < 1000) (hdp : dp + 11 < recursionLimit) (hun : un + 103 < cLine) (hk : scope.kind = .function)
    (h : ∀ h' tk, Fr g L h' m → News g L h' news' → Q .none { s with heap := h', toks := tk }) :
    wpAny (model PR w) ((Aw none dp outer gd un).deeper (envOf name scope L a cd)) (call (.ref 66) [.ref lx, v]) Q E s := by
  have m3 : (pb, listOf xs.toArray n) ∈ news := by obtain ⟨pre, post, rfl, _⟩ := U.split; simp
  have hfp : ∀ a ∈ [lx, dx, pb], ∃ o, (a, o) ∈ news := three ⟨_, m1⟩ ⟨_, m2⟩ ⟨_, m3⟩
  refine wpAny_call (push_c (dp := dp + 1) (un := un + 3) (gd_here H F N hs hfp hk) (N _ m1).1 (N _ m2).1 (N _ m3).1 n1 n2 n3 (by simpa using hz) (by omega) (by omega) fun h' tk hm e1 e2 e3 => ?_)
  exact h h' tk (fr_mod F N hfp hm) (upd_three N m1 m2 U n2 n3 hm e1 e2 (by simpa using e3))
theorem cvK {x : Str} {u : Tok} {r : List (List Nat)} {cs : List Nat} (H : Stand w b₀ g outer frs []) (F : Fr g L s.heap m) (N : News g L s.heap (ex ++ reSl f frs)) (hex : ∀ q ∈ ex, ∀ r ∈ frs, q.1 ≠ r.1)
    (hsp : Sp x.cps.toList r) (hpk : PKs r cs) (hsz : x.cps.size ≤ 1000000) (hcl : cs.length ≤ 1000) (hdp : dp + 11 < recursionLimit) (hun : un + 103 < cLine) (hk : scope.kind = .function)
    (h : ∀ h' tk l its k f', Fr g L h' m → News g L h' ((l, listOf its k) :: ex ++ reSl f' frs) → (∀ q ∈ ex, q.1 ≠ l) → (∀ q ∈ frs, q.1 ≠ l) → RanksAre its.toList cs → Q (.ref l) { s with heap := h', toks := tk }) :
    wpH (model PR w) ((Aw none dp outer gd un).deeper (envOf name scope L a cd)) (call (.ref 86) [.str x u]) Q E s := by
  obtain ⟨h₁, S⟩ := H.SF
  refine wpH_call (cv_c (dp := dp + 1) (un := un + 3) (outer := envOf name scope L a cd :: outer) hsp hpk hsz hcl (gd_here H F N (fun p hp => List.mem_append_right _ hp) (fun a ha => nomatch ha) hk) (by omega) (by omega) fun h' tk l its k hm hl e1 hr => ?_)
  obtain ⟨f', N'⟩ := news_modF N S.adr hex hm
  have nl : ∀ q ∈ ex ++ reSl f frs, q.1 ≠ l := fun q hq e => by have := (N q hq).1; rw [e, hl] at this; cases this
  refine h h' tk l its k f' (fr_modF F N S.adr hm) (fun q hq => ?_) (fun q hq => nl q (List.mem_append_left _ hq)) (fun q hq => nl (q.1, { q.2 with slots := f q.1 }) (List.mem_append_right _ (List.mem_map.mpr ⟨q, hq, rfl⟩))) hr
  rcases List.mem_cons.mp hq with rfl | hq
  · refine ⟨e1, fun e => ?_, ?_⟩
    · obtain ⟨oL, _, _, hLo, _⟩ := F.ns
      rw [← show l = L from e, hl] at hLo; cases hLo
    · cases q : g.get? l with
      | none => rfl
      | some o => have := F.keep l o q; rw [hl] at this; cases this
  · exact N' q hq
end
end Mine
end

section
open PySem PySem.W PySem.Calls PyProof.Rows
set_option maxRecDepth 100000
set_option maxHeartbeats 4000000
set_option linter.unusedVariables false
namespace Mine
abbrev wordS (xs : List Nat) : Str := ofL (textL xs)
def roundF : List Nat → List (List Nat) → Nat → Bool → List (List Nat) × Bool × Nat
  | hand, [], late, met => ([hand], met, late)
  | hand, b :: rest, late, met =>
    if ltB (codesL hand) (codesL b) then
      if late % 2 = 0 then roundF (hand ++ b) rest (late / 2) true
      else let r := roundF b rest (late / 2) true; (hand :: r.1, r.2)
    else let r := roundF b rest late met; (hand :: r.1, r.2)
theorem reSl_ne' {f : Addr → Array (Option Value)} {frs : List (Addr × Obj)} {d : Addr} (h : ∀ p ∈ frs, p.1 ≠ d) : ∀ p ∈ reSl f frs, p.1 ≠ d := by
  intro p hp
  obtain ⟨q, hq, rfl⟩ := List.mem_map.mp hp
  exact h q hq
inductive St (fin : List (List Nat) × Bool × Nat) : List Nat → List Str → Nat → Bool → Nat → Prop
  | run {hd : List Nat} {rest out : List (List Nat)} {late : Nat} {met : Bool} : hd ≠ [] → (∀ x ∈ rest, x ≠ []) → out ++ (roundF hd rest late met).1 = fin.1 → (roundF hd rest late met).2 = fin.2 → hd.length + rest.flatten.length ≤ 100 → rest.length + out.length ≤ 101 → late < 64 → St fin hd (rest.map wordS ++ [ofL []] ++ out.map wordS) late met (rest.length + 2)
  | stop {out : List (List Nat)} {late : Nat} {met : Bool} : out = fin.1 → (met, late) = fin.2 → out.length ≤ 102 → St fin [] (out.map wordS) late met 1
abbrev orM (lx : Addr) (hand : List Nat) (th : Tok) (lr : Addr) (met : Bool) (late : Nat) (tl : Tok) (m1 m2 m3 : Option Value) : Str → Option Value := fun y => if y = S "hand" then some (.str (wordS hand) th) else if y = S "ranks" then some (.ref lr) else if y = S "met" then some (.bool met) else if y = S "late" then some (.int (late : Int) tl) else if y = S "lexer" then some (.ref lx)
  else if y = S "behind" then m1 else if y = S "ranks_behind" then m2 else if y = S "older" then m3 else none
theorem or_none {lx : Addr} {hand : List Nat} {th : Tok} {lr : Addr} {met : Bool} {late : Nat} {tl : Tok} {m1 m2 m3 : Option Value} {y : Str} (k1 : y ≠ S "hand") (k2 : y ≠ S "ranks") (k3 : y ≠ S "met") (k4 : y ≠ S "late") (k5 : y ≠ S "lexer") (k6 : y ≠ S "behind") (k7 : y ≠ S "ranks_behind") (k8 : y ≠ S "older") : orM lx hand th lr met late tl m1 m2 m3 y = none := by
  simp only [orM, if_neg k1, if_neg k2, if_neg k3, if_neg k4, if_neg k5, if_neg k6, if_neg k7, if_neg k8]
theorem frEq {g h : Heap} {L : Addr} {m m' : Str → Option Value} (F : Fr g L h m) (e : m = m') : Fr g L h m' := e ▸ F
theorem ext_keys {m m' : Str → Option Value} (h1 : m (S "hand") = m' (S "hand")) (h2 : m (S "ranks") = m' (S "ranks")) (h3 : m (S "met") = m' (S "met")) (h4 : m (S "late") = m' (S "late")) (h5 : m (S "lexer") = m' (S "lexer")) (h6 : m (S "behind") = m' (S "behind"))
    (h7 : m (S "ranks_behind") = m' (S "ranks_behind")) (h8 : m (S "older") = m' (S "older")) (ho : ∀ y, y ≠ S "hand" → y ≠ S "ranks" → y ≠ S "met" → y ≠ S "late" → y ≠ S "lexer" → y ≠ S "behind" → y ≠ S "ranks_behind" → y ≠ S "older" → m y = m' y) : m = m' := by
  funext y
  by_cases k1 : y = S "hand"
  · rw [k1, h1]
  by_cases k2 : y = S "ranks"
  · rw [k2, h2]
  by_cases k3 : y = S "met"
  · rw [k3, h3]
  by_cases k4 : y = S "late"
  · rw [k4, h4]
  by_cases k5 : y = S "lexer"
  · rw [k5, h5]
  by_cases k6 : y = S "behind"
  · rw [k6, h6]
  by_cases k7 : y = S "ranks_behind"
  · rw [k7, h7]
  by_cases k8 : y = S "older"
  · rw [k8, h8]
  exact ho y k1 k2 k3 k4 k5 k6 k7 k8
theorem word_ne {xs : List Nat} (h : xs ≠ []) : (wordS xs != Str.ofString "") = true := by
  have h1 := text_ne h
  simp only [bne_iff_ne, ne_eq]
  intro e
  apply h1
  have : (wordS xs).cps.toList = (Str.ofString "").cps.toList := by rw [e]
  exact this
theorem text_size (xs : List Nat) (h : xs.length ≤ 100) : (wordS xs).cps.size ≤ 1000000 := by have := text_len xs; show (textL xs).toArray.size ≤ _; simp; omega
theorem codes_len (xs : List Nat) (h : xs.length ≤ 100) : (codesL xs).length ≤ 1000 := by simp [codesL]; omega
local macro_rules | `(tactic| k_all) => `(tactic| first | exact reSl_ne' (by assumption) | exact reSl_ne (by assumption))
local macro_rules | `(tactic| walk_at "call ref") => `(tactic| (k_here; k_dflt (first
  | (refine getK (by assumption) (by k_asm) (by k_asm) (by intro p hp; repeat (first | exact hp | apply List.Mem.tail)) (by k_mem) (by k_mem) (by k_upd) (by assumption) (by assumption) (by assumption) (by assumption) (by omega) (by omega) rfl ?_)
  | (refine pushK (by assumption) (by k_asm) (by k_asm) (by intro p hp; repeat (first | exact hp | apply List.Mem.tail)) (by k_mem) (by k_mem) (by k_upd) (by assumption) (by assumption) (by assumption) (by assumption) (by omega) (by omega) rfl ?_)); intro h' tk' F' N'))
local macro_rules | `(tactic| walk_at "compareOp Lt") => `(tactic| (k_here; k_dflt (refine ltRanks (by k_asm) (by k_mem) (by k_mem) (by assumption) (by assumption) (by show _ + 3 < _; omega) ?_; k_whole)))
theorem wordS_append (xs ys : List Nat) : wordS xs ++ wordS ys = wordS (xs ++ ys) := by
  show (⟨(textL xs).toArray ++ (textL ys).toArray⟩ : Str) = ⟨(textL (xs ++ ys)).toArray⟩
  rw [text_append]; simp
theorem addW {prog : Program} {w : World} {A : Around} {E : Value → Shared → Prop} {s : Shared} {xs ys : List Nat} {t u : Tok} {Q : Value → Shared → Prop} (hl : xs.length + ys.length ≤ 100) (h : ∀ t' k, Q (.str (wordS (xs ++ ys)) t') { s with toks := k }) :
    wpAny (model prog w) A (binaryOp .Add (.str (wordS xs) t) (.str (wordS ys) u)) Q E s := by
  refine PySem.SB.add (fun t' k => ?_) ?_
  · rw [wordS_append]; exact h t' k
  · have h1 := text_len xs
    have h2 := text_len ys
    have h3 : sizeLine = 16777216 := rfl
    show (textL xs).toArray.size + (textL ys).toArray.size ≤ sizeLine
    simp only [List.size_toArray]; omega
local macro_rules | `(tactic| walk_at "binaryOp Add str str") => `(tactic| (k_here; (with_reducible show wpAny _ _ (binaryOp Operator.Add (Value.str (ofL (textL _)) _) (Value.str (ofL (textL _)) _)) _ _ _); k_dflt (refine addW (by assumption) ?_); intro t' tk'))
theorem fmE {n : Nat} (h : ((n : Int).fmod 2) = 0) : n % 2 = 0 := by
  have : ((n : Int).fmod 2) = ((n % 2 : Nat) : Int) := by simp [Int.fmod_eq_emod]
  omega
theorem fmN {n : Nat} (h : ((n : Int).fmod 2) ≠ 0) : n % 2 ≠ 0 := by
  have : ((n : Int).fmod 2) = ((n % 2 : Nat) : Int) := by simp [Int.fmod_eq_emod]
  omega
theorem fd2 (n : Nat) : (n : Int).fdiv 2 = ((n / 2 : Nat) : Int) := by simp [Int.fdiv_eq_ediv]
inductive JR (s : Shared) (g : Heap) (L' lx dx pb : Addr) (D : Obj) (frs : List (Addr × Obj)) (fin : List (List Nat) × Bool × Nat) (k : Nat) (s' : Shared) : Prop
  | mk (h' : Heap) (tk : Nat) (hand' : List Nat) (th' : Tok) (lr' : Addr) (its' : List Value) (kr' : Nat) (met' : Bool) (late' : Nat) (tl' : Tok) (m1 m2 m3 : Option Value) (vs' : List Value) (n' : Nat) (f' : Addr → Array (Option Value)) (xs' : List Str)
    (e : s' = { s with heap := h', toks := tk }) (F : Fr g L' h' (orM lx hand' th' lr' met' late' tl' m1 m2 m3)) (N : News g L' h' ((lr', listOf its'.toArray kr') :: (lx, instObj 69 dx) :: (dx, D) :: (pb, listOf vs'.toArray n') :: reSl f' frs))
    (b1 : lx ≠ lr') (b2 : dx ≠ lr') (b3 : pb ≠ lr') (c : ∀ r ∈ frs, r.1 ≠ lr') (ra : RanksAre its' (codesL hand')) (hv : StrsAre vs' xs') (st : St fin hand' xs' late' met' k) : JR s g L' lx dx pb D frs fin k s'
inductive RE (h : Heap) (lx dx pb : Addr) (D : Obj) (fin : List (List Nat) × Bool × Nat) (v' : Value) (h' : Heap) : Prop
  | mk (l : Addr) (vs' : List Value) (n' k' : Nat) (t' : Tok) (e : v' = .ref l) (a1 : h'.get? lx = some (instObj 69 dx)) (a2 : h'.get? dx = some D) (a3 : h'.get? pb = some (listOf vs'.toArray n')) (a4 : StrsAre vs' (fin.1.map wordS ++ [ofL []])) (a5 : h.get? l = none)
    (a6 : h'.get? l = some ({ cls := .type "tuple", data := .seq #[.bool fin.2.1, .int (fin.2.2 : Int) t'] k' } : Obj)) : RE h lx dx pb D fin v' h'
theorem round_c {w : World} {b₀ : Heap} {dp un : Nat} {gd : Option (List Code)} {outer : List Env} {s : Shared} {R : Result → Shared → Prop}
    {lx dx pb : Addr} {t1 t2 t3 t4 : Tok} {ln : Int} {lt : Tok} {st : Value} {wt : Tok} {vs : List Value} {n : Nat} {late : Nat} {u : Tok} {hand : List Nat} {rest : List (List Nat)}
    (G : Gd w b₀ outer s.heap [lx, dx, pb]) (h1 : s.heap.get? lx = some (instObj 69 dx)) (h2 : s.heap.get? dx = some (dictOf (lexD w t1 t2 t3 t4 ln lt st wt pb) 4)) (h3 : s.heap.get? pb = some (listOf vs.toArray n))
    (n1 : lx ≠ dx) (n2 : lx ≠ pb) (n3 : dx ≠ pb) (hvs : StrsAre vs ((hand :: rest).map wordS ++ [ofL []])) (hne : ∀ x ∈ hand :: rest, x ≠ []) (hlen : hand.length + rest.flatten.length ≤ 100) (hrl : rest.length ≤ 100) (hlate : late < 64)
    (hdp : dp + 30 < recursionLimit) (hun : un + 200 < cLine)
    (ret : ∀ h' tk l vs' n' k' t', ModF outer [lx, dx, pb] s.heap h' → h'.get? lx = some (instObj 69 dx) → h'.get? dx = some (dictOf (lexD w t1 t2 t3 t4 ln lt st wt pb) 4) → h'.get? pb = some (listOf (vs' : List Value).toArray n') →
      StrsAre vs' ((roundF hand rest late false).1.map wordS ++ [ofL []]) → s.heap.get? l = none → h'.get? l = some ({ cls := .type "tuple", data := .seq #[.bool (roundF hand rest late false).2.1, .int ((roundF hand rest late false).2.2 : Int) t'] k' } : Obj) →
      R (.ok (.ret (.ref l))) { s with heap := h', toks := tk }) :
    codeH (model PR w) (Aw none dp outer gd un) (.call (.ref 112) ⟨[.ref lx, .int (late : Int) u], []⟩) R s := by
  refine' enterH (binds := [(S "lexer", .ref lx), (S "late", .int (late : Int) u)]) (fps := [(lx, instObj 69 dx), (dx, dictOf (lexD w t1 t2 t3 t4 ln lt st wt pb) 4), (pb, listOf vs.toArray n)])
    (Φ := RE s.heap lx dx pb (dictOf (lexD w t1 t2 t3 t4 ln lt st wt pb) 4) (roundF hand rest late false)) G ?hfp ?ho ?hcd ?hr ?hb ?hl ?body ?ret ?c1 ?c2 ?c3 ?c4
  case ho => k_dflt k_is
  case hcd => k_dflt k_is
  case hr => omega
  case hb => exact BindsTo.of_eq rfl
  case hl => exact locs rfl
  case c1 => rfl
  case c2 => rfl
  case c3 => rfl
  case c4 => decide
  · intro q hq; simp only [List.mem_cons, List.not_mem_nil, or_false] at hq; rcases hq with rfl | rfl | rfl <;> assumption
  · intro p loose mean mg mb g L' h₁ frs fs SF stg F N X T l1 l2 l3 hg
    simp only [List.cons_append, List.nil_append] at N
    have H : Stand w b₀ g outer frs [lx, dx, pb] := ⟨G.X, G.T, stg, ⟨_, SF⟩, three (l3 _ (.head _)) (l3 _ (.tail _ (.head _))) (l3 _ (.tail _ (.tail _ (.head _))))⟩
    have a1 : ∀ r ∈ frs, r.1 ≠ lx := fun r hr => (l3 _ (.head _) r hr).symm
    have a2 : ∀ r ∈ frs, r.1 ≠ dx := fun r hr => (l3 _ (.tail _ (.head _)) r hr).symm
    have a3 : ∀ r ∈ frs, r.1 ≠ pb := fun r hr => (l3 _ (.tail _ (.tail _ (.head _))) r hr).symm
    have hz : vs.length ≤ 103 := by have := hvs.len; simp at this; omega
    obtain ⟨v, vs, rfl⟩ : ∃ v vs', vs = v :: vs' := by cases hvs with | cons q => exact ⟨_, _, rfl⟩
    obtain ⟨th, rfl⟩ : ∃ t, v = .str (wordS hand) t := by cases hvs with | cons q => exact ⟨_, rfl⟩
    replace hvs : StrsAre vs (rest.map wordS ++ [ofL []]) := by cases hvs with | cons q => exact q
    have hz : vs.length < 1000 := by simp at hz; omega
    clear l1 l3
    refine h_cons (wpH_any ?_)
    k_steps
    dsimp only
    refine h_cons (wpH_any ?_)
    k_steps
    dsimp only
    refine h_cons (h_assign (h_call ?_))
    k_steps
    refine h_withK (K := hd.heap_39 w.params) (by k_dflt k_is) ?_
    k_steps
    rename_i F₁ N₁
    obtain ⟨r, hsp, hpk⟩ := pieces_of hand
    refine cvK (ex := [(lx, instObj 69 dx), (dx, dictOf (lexD w t1 t2 t3 t4 ln lt st wt pb) 4), (pb, listOf vs.toArray (n + 1))]) (H.less (fun _ h => nomatch h)) F₁ N₁ ?_ hsp hpk (text_size _ (by omega)) (codes_len _ (by omega)) (by omega) (by omega) rfl ?_
    · intro q hq r hr
      simp only [List.mem_cons, List.not_mem_nil, or_false] at hq
      rcases hq with rfl | rfl | rfl
      · exact (a1 r hr).symm
      · exact (a2 r hr).symm
      · exact (a3 r hr).symm
    · clear F₁ N₁ hsp hpk r
      intro h₂ tk₂ lr its k₂ f₂ F₂ N₂ c1 c2 hra
      k_steps
      rename_i F₃ N₃
      have b1 : lx ≠ lr := c1 (lx, _) (.head _)
      have b2 : dx ≠ lr := c1 (dx, _) (.tail _ (.head _))
      have b3 : pb ≠ lr := c1 (pb, _) (.tail _ (.tail _ (.head _)))
      clear c1
      dsimp only
      refine h_cons (h_while (h_whileLoop (JR s g L' lx dx pb (dictOf (lexD w t1 t2 t3 t4 ln lt st wt pb) 4) frs (roundF hand rest late false)) ?turn (rest.length + 2) ?init))
      case init =>
        refine ⟨_, _, hand, th, lr, its.toList, k₂, false, late, u, none, none, none, vs, n + 1, f₂, _, rfl, ?_, N₃, b1, b2, b3, c2, hra, ?_, .run (out := []) (hne _ (.head _)) (fun x hx => hne x (.tail _ hx)) rfl rfl hlen (by simp; omega) hlate⟩
        · refine frEq F₃ (ext_keys rfl rfl rfl rfl rfl rfl rfl rfl fun y k1 k2 k3 k4 k5 k6 k7 k8 => ?_)
          simp only [orM, if_neg k1, if_neg k2, if_neg k3, if_neg k4, if_neg k5, if_neg k6, if_neg k7, if_neg k8, List.reverse_cons, List.reverse_nil, List.nil_append, List.cons_append, List.lookup, beq_eq_false_iff_ne.mpr k4, beq_eq_false_iff_ne.mpr k5]
        · simpa using hvs
      case turn =>
        clear F₃ N₃ b1 b2 b3 c2 hra hvs hne hlen hrl hlate hz
        rintro k s' ⟨h', tk, hand', th', lr', its', kr', met', late', tl', m1, m2, m3, vs', n', f', xs', rfl, F, N, b1, b2, b3, c2, hra, hvs, hst⟩
        have b1' := b1.symm
        have b2' := b2.symm
        have b3' := b3.symm
        cases hst with
        | @stop out _ _ e1 e2 e3 =>
          have hz : vs'.length < 1000 := by have := hvs.len; simp at this; omega
          k_steps
          dsimp only
          refine wpH_any ?_
          k_steps
          rename_i hT FT NT lT
          obtain ⟨_, l1, l2, l3, l4⟩ := lT
          have e2a := congrArg Prod.fst e2
          have e2b := congrArg Prod.snd e2
          simp only at e2a e2b
          refine EndsF.of FT NT (f := f') (fun q hq => .tail _ (.tail _ (.tail _ (.tail _ (.tail _ hq))))) ⟨_, _, _, 0, tl', rfl, (NT _ (.tail _ (.tail _ (.head _)))).1, (NT _ (.tail _ (.tail _ (.tail _ (.head _))))).1, (NT _ (.tail _ (.tail _ (.tail _ (.tail _ (.head _)))))).1, ?_, ?_, ?_⟩
          · rw [← e1]; exact hvs.append (.cons .nil)
          · have hgl := (NT _ (.head _)).2.2
            refine Option.eq_none_iff_forall_ne_some.mpr fun o e => ?_
            rw [hg _ o e ?_ (fun hm => ?_)] at hgl
            · cases hgl
            · simp only [List.map_cons, List.map_nil, List.mem_cons, List.not_mem_nil, or_false, not_or]
              exact ⟨Nat.ne_of_gt l1, Nat.ne_of_gt l2, Nat.ne_of_gt l3⟩
            · rw [← SF.adr] at hm
              obtain ⟨q, hq, hqe⟩ := List.mem_map.mp hm
              exact absurd hqe (Nat.ne_of_lt (kst_ltOf l4 (q.1, { q.2 with slots := f' q.1 }) (List.mem_map.mpr ⟨q, hq, rfl⟩)))
          · rw [← e2a, ← e2b]; exact (NT _ (.head _)).1
        | @run _ rest' out _ _ e1 e2 e3 e4 e5 e6 e7 =>
        k_steps
        · rename_i hh
          clear hh
          obtain ⟨bw, tb, vs2, ys2, rfl, hv2, hcase⟩ : ∃ bw tb vs2 ys2, vs' = .str (wordS bw) tb :: vs2 ∧ StrsAre vs2 ys2 ∧ ((rest' = [] ∧ bw = [] ∧ ys2 = out.map wordS) ∨ (∃ r2, rest' = bw :: r2 ∧ ys2 = r2.map wordS ++ [ofL []] ++ out.map wordS)) := by
            cases rest' with
            | nil => cases hvs with | cons q => exact ⟨[], _, _, _, rfl, q, .inl ⟨rfl, rfl, rfl⟩⟩
            | cons b r2 => cases hvs with | cons q => exact ⟨b, _, _, _, rfl, q, .inr ⟨r2, rfl, rfl⟩⟩
          have hz : vs2.length < 900 := by
            have := hv2.len
            rcases hcase with ⟨_, _, rfl⟩ | ⟨r2, rfl, rfl⟩ <;> simp at this e6 <;> omega
          have hz' : vs2.length < 1000 := by omega
          have hbl : hand'.length + bw.length ≤ 100 := by
            rcases hcase with ⟨_, rfl, rfl⟩ | ⟨r2, rfl, rfl⟩ <;> simp at e5 ⊢ <;> omega
          clear hvs
          refine opqH fun QQ hQQ => ?_
          refine h_cons (wpH_any ?_)
          k_steps
          dsimp only
          refine h_cons (h_assign (h_call ?_))
          k_steps
          refine h_withK (K := hd.heap_39 w.params) (by k_dflt k_is) ?_
          k_steps
          rename_i F₁ N₁
          obtain ⟨r, hsp, hpk⟩ := pieces_of bw
          refine cvK (ex := [(lr', listOf its'.toArray kr'), (lx, instObj 69 dx), (dx, dictOf (lexD w t1 t2 t3 t4 ln lt st wt pb) 4), (pb, listOf vs2.toArray (n' + 1))]) (H.less (fun _ h => nomatch h)) F₁ N₁ ?_ hsp hpk (text_size _ (by omega)) (codes_len _ (by omega)) (by omega) (by omega) rfl ?_
          · intro q hq r hr
            simp only [List.mem_cons, List.not_mem_nil, or_false] at hq
            rcases hq with rfl | rfl | rfl | rfl
            · exact (c2 r hr).symm
            · exact (a1 r hr).symm
            · exact (a2 r hr).symm
            · exact (a3 r hr).symm
          clear F₁ N₁ hsp hpk r
          intro h₂ tk₂ lb itb k₂ f₂ F₂ N₂ d1 d2 hrb
          obtain ⟨itb⟩ := itb
          simp only [List.cons_append, List.nil_append] at N₂
          replace hrb : RanksAre itb (codesL bw) := hrb
          have p0 : lr' ≠ lb := d1 (lr', _) (.head _)
          have p1 : lx ≠ lb := d1 (lx, _) (.tail _ (.head _))
          have p2 : dx ≠ lb := d1 (dx, _) (.tail _ (.tail _ (.head _)))
          have p3 : pb ≠ lb := d1 (pb, _) (.tail _ (.tail _ (.tail _ (.head _))))
          clear d1
          have p0' := p0.symm
          have p3' := p3.symm
          k_steps
          dsimp only
          refine h_cons (wpH_any ?_)
          k_steps
          rename_i F₃ N₃
          refine ltRanks (vs := its') (ws := itb) N₃ (.tail _ (.head _)) (.head _) hra hrb (show un + 3 < cLine by omega) ?_
          cases hold : ltB (codesL hand') (codesL bw)
          · k_steps
            dsimp only
            refine h_cons (h_if ?_)
            k_steps
            refine wpH_any ?_
            k_steps
            dsimp only
            refine h_cons (wpH_any ?_)
            k_steps
            refine h_nil ?_
            try dsimp only
            rename_i F₅ N₅
            have Ne : News g L' _ ((lb, listOf itb.toArray k₂) :: (lx, instObj 69 dx) :: (dx, dictOf (lexD w t1 t2 t3 t4 ln lt st wt pb) 4) :: (pb, listOf (vs2 ++ [Value.str (wordS hand') th']).toArray (n' + 1 + 1)) :: reSl f₂ frs) := fun q hq => N₅ q (by rcases List.mem_cons.mp hq with rfl | hq; exact .head _; exact .tail _ (.tail _ hq))
            have hsv : StrsAre (vs2 ++ [Value.str (wordS hand') th']) (ys2 ++ [wordS hand']) := hv2.append (.cons .nil)
            rcases hcase with ⟨rfl, rfl, rfl⟩ | ⟨r2, rfl, rfl⟩
            · refine hQQ _ _ ?_
              dsimp only
              refine ⟨1, by simp, _, _, [], tb, lb, itb, k₂, met', late', tl', some (.str (wordS []) tb), some (.ref lb), some (.bool false), _, _, f₂, _, rfl, frEq F₅ (ext_keys rfl rfl rfl rfl rfl rfl rfl rfl fun y k1 k2 k3 k4 k5 k6 k7 k8 => ?_), Ne, p1, p2, p3, d2, hrb, hsv, ?_⟩
              · (repeat (first | refine (if_neg k1).trans ?_ | refine (if_neg k2).trans ?_ | refine (if_neg k3).trans ?_ | refine (if_neg k4).trans ?_ | refine (if_neg k5).trans ?_ | refine (if_neg k6).trans ?_ | refine (if_neg k7).trans ?_ | refine (if_neg k8).trans ?_)); exact (or_none k1 k2 k3 k4 k5 k6 k7 k8).symm
              · have := St.stop (fin := roundF hand rest late false) (out := out ++ [hand']) (late := late') (met := met') e3 e4 (by simp at e6 ⊢; omega)
                simpa using this
            · rw [show roundF hand' (bw :: r2) late' met' = (hand' :: (roundF bw r2 late' met').1, (roundF bw r2 late' met').2) by rw [roundF, if_neg (by rw [hold]; exact Bool.false_ne_true)]] at e3 e4
              refine hQQ _ _ ?_
              dsimp only
              refine ⟨r2.length + 2, by simp, _, _, bw, tb, lb, itb, k₂, met', late', tl', some (.str (wordS bw) tb), some (.ref lb), some (.bool false), _, _, f₂, _, rfl, frEq F₅ (ext_keys rfl rfl rfl rfl rfl rfl rfl rfl fun y k1 k2 k3 k4 k5 k6 k7 k8 => ?_), Ne, p1, p2, p3, d2, hrb, hsv, ?_⟩
              · (repeat (first | refine (if_neg k1).trans ?_ | refine (if_neg k2).trans ?_ | refine (if_neg k3).trans ?_ | refine (if_neg k4).trans ?_ | refine (if_neg k5).trans ?_ | refine (if_neg k6).trans ?_ | refine (if_neg k7).trans ?_ | refine (if_neg k8).trans ?_)); exact (or_none k1 k2 k3 k4 k5 k6 k7 k8).symm
              · have := St.run (fin := roundF hand rest late false) (hd := bw) (rest := r2) (out := out ++ [hand']) (late := late') (met := met') (e2 _ (.head _)) (fun x hx => e2 x (.tail _ hx)) (by simpa using e3) e4 (by simp at e5 ⊢; omega) (by simp at e6 ⊢; omega) e7
                simpa using this
          · k_steps
            dsimp only
            refine h_cons (h_if ?_)
            k_steps
            · rename_i hev
              refine h_cons (wpH_any ?_)
              k_steps
              dsimp only
              refine h_cons (h_assign (h_call ?_))
              k_steps
              refine h_withK (K := hd.heap_39 w.params) (by k_dflt k_is) ?_
              k_steps
              rename_i F₅ N₅
              obtain ⟨r, hsp, hpk⟩ := pieces_of (hand' ++ bw)
              refine cvK (ex := [(lx, instObj 69 dx), (dx, dictOf (lexD w t1 t2 t3 t4 ln lt st wt pb) 4), (pb, listOf vs2.toArray (n' + 1))]) (H.less (fun _ h => nomatch h)) F₅ (fun q hq => N₅ q (.tail _ (.tail _ hq))) ?_ hsp hpk (text_size _ (by simp; omega)) (codes_len _ (by simp; omega)) (by omega) (by omega) rfl ?_
              · intro q hq r hr
                simp only [List.mem_cons, List.not_mem_nil, or_false] at hq
                rcases hq with rfl | rfl | rfl
                · exact (a1 r hr).symm
                · exact (a2 r hr).symm
                · exact (a3 r hr).symm
              clear F₅ N₅ hsp hpk r
              intro h₆ tk₆ lc itc k₆ f₆ F₆ N₆ g1 g2 hrc
              obtain ⟨itc⟩ := itc
              simp only [List.cons_append, List.nil_append] at N₆
              replace hrc : RanksAre itc (codesL (hand' ++ bw)) := hrc
              have q1 : lx ≠ lc := g1 (lx, _) (.head _)
              have q2 : dx ≠ lc := g1 (dx, _) (.tail _ (.head _))
              have q3 : pb ≠ lc := g1 (pb, _) (.tail _ (.tail _ (.head _)))
              clear g1
              k_steps
              refine h_nil ?_
              try dsimp only
              refine h_cons (wpH_any ?_)
              k_steps
              refine h_nil ?_
              try dsimp only
              rename_i F₇ N₇
              have hev' : late' % 2 = 0 := fmE hev
              have e : (late' : Int).fdiv 2 = ((late' / 2 : Nat) : Int) := fd2 late'
              rw [e] at F₇
              rcases hcase with ⟨rfl, rfl, rfl⟩ | ⟨r2, rfl, rfl⟩
              · cases hand' <;> cases hold
              · rw [show roundF hand' (bw :: r2) late' met' = roundF (hand' ++ bw) r2 (late' / 2) true by rw [roundF, if_pos hold, if_pos hev']] at e3 e4
                refine hQQ _ _ ?_
                dsimp only
                refine ⟨r2.length + 2, by simp, _, _, hand' ++ bw, _, lc, itc, k₆, true, late' / 2, _, some (.str (wordS bw) tb), some (.ref lb), some (.bool true), _, _, f₆, _, rfl, frEq F₇ (ext_keys rfl rfl rfl rfl rfl rfl rfl rfl fun y k1 k2 k3 k4 k5 k6 k7 k8 => ?_), N₇, q1, q2, q3, g2, hrc, hv2, ?_⟩
                · (repeat (first | refine (if_neg k1).trans ?_ | refine (if_neg k2).trans ?_ | refine (if_neg k3).trans ?_ | refine (if_neg k4).trans ?_ | refine (if_neg k5).trans ?_ | refine (if_neg k6).trans ?_ | refine (if_neg k7).trans ?_ | refine (if_neg k8).trans ?_)); exact (or_none k1 k2 k3 k4 k5 k6 k7 k8).symm
                · exact St.run (fin := roundF hand rest late false) (hd := hand' ++ bw) (rest := r2) (out := out) (late := late' / 2) (met := true) (by simp [e1]) (fun x hx => e2 x (.tail _ hx)) e3 e4 (by simp at e5 ⊢; omega) (by simp at e6 ⊢; omega) (Nat.lt_of_le_of_lt (Nat.div_le_self _ _) e7)
            · rename_i hev
              refine wpH_any ?_
              k_steps
              dsimp only
              refine h_cons (wpH_any ?_)
              k_steps
              refine h_nil ?_
              try dsimp only
              rename_i F₅ N₅
              have hev' : late' % 2 ≠ 0 := fmN hev
              have e : (late' : Int).fdiv 2 = ((late' / 2 : Nat) : Int) := fd2 late'
              rw [e] at F₅
              have Ne : News g L' _ ((lb, listOf itb.toArray k₂) :: (lx, instObj 69 dx) :: (dx, dictOf (lexD w t1 t2 t3 t4 ln lt st wt pb) 4) :: (pb, listOf (vs2 ++ [Value.str (wordS hand') th']).toArray (n' + 1 + 1)) :: reSl f₂ frs) := fun q hq => N₅ q (by rcases List.mem_cons.mp hq with rfl | hq; exact .head _; exact .tail _ (.tail _ hq))
              have hsv : StrsAre (vs2 ++ [Value.str (wordS hand') th']) (ys2 ++ [wordS hand']) := hv2.append (.cons .nil)
              rcases hcase with ⟨rfl, rfl, rfl⟩ | ⟨r2, rfl, rfl⟩
              · cases hand' <;> cases hold
              · rw [show roundF hand' (bw :: r2) late' met' = (hand' :: (roundF bw r2 (late' / 2) true).1, (roundF bw r2 (late' / 2) true).2) by rw [roundF, if_pos hold, if_neg hev']] at e3 e4
                refine hQQ _ _ ?_
                dsimp only
                refine ⟨r2.length + 2, by simp, _, _, bw, tb, lb, itb, k₂, true, late' / 2, _, some (.str (wordS bw) tb), some (.ref lb), some (.bool true), _, _, f₂, _, rfl, frEq F₅ (ext_keys rfl rfl rfl rfl rfl rfl rfl rfl fun y k1 k2 k3 k4 k5 k6 k7 k8 => ?_), Ne, p1, p2, p3, d2, hrb, hsv, ?_⟩
                · (repeat (first | refine (if_neg k1).trans ?_ | refine (if_neg k2).trans ?_ | refine (if_neg k3).trans ?_ | refine (if_neg k4).trans ?_ | refine (if_neg k5).trans ?_ | refine (if_neg k6).trans ?_ | refine (if_neg k7).trans ?_ | refine (if_neg k8).trans ?_)); exact (or_none k1 k2 k3 k4 k5 k6 k7 k8).symm
                · have := St.run (fin := roundF hand rest late false) (hd := bw) (rest := r2) (out := out ++ [hand']) (late := late' / 2) (met := true) (e2 _ (.head _)) (fun x hx => e2 x (.tail _ hx)) (by simpa using e3) e4 (by simp at e5 ⊢; omega) (by simp at e6 ⊢; omega) (Nat.lt_of_le_of_lt (Nat.div_le_self _ _) e7)
                  simpa using this
        · rename_i hh
          exact absurd (word_ne e1) (by rw [hh]; decide)
  · rintro v' h' tk hm ⟨l, vs', n', k', t', rfl, a, b, c, d, e, f⟩
    exact ret h' tk l vs' n' k' t' hm a b c d e f
end Mine
end

section
open PySem PySem.W PySem.Calls PyProof.Rows
set_option maxRecDepth 100000
set_option maxHeartbeats 4000000
set_option linter.unusedVariables false
namespace Mine
theorem h_assignTup {M : Model} {A : Around} {E : Value → Shared → Prop} {s : Shared} {env : Env} {elts k tpos value pos} {Q : Flow → Shared → Prop}
    (h : wpH M A (eval value env) (fun v s₁ => wpAny M A (assign (.Tuple elts k tpos) env v) (fun _ => Q .next) E s₁) E s)
    (hs : swapsWithSole [.Tuple elts k tpos] value pos.line env = pure false := by rfl)
    (hw : swappedStores [.Tuple elts k tpos] value env = pure none := by rfl) :
    wpH M A (exec (.Assign [.Tuple elts k tpos] value pos) env) Q E s := by
  rw [exec_Assign]
  refine wpH_bind (wpH_any (wpAny_standAt ?_))
  rw [hs]
  refine wpH_bind (wpH_pure ?_)
  rw [if_neg (by decide)]
  refine wpH_bind (wpH_mono h (fun v s₁ h₁ => ?_) fun _ _ x => x)
  rw [hw]
  refine wpH_bind (wpH_pure ?_)
  show wpH M A (do assignAll v [assign (.Tuple elts k tpos) env]; pure .next) Q E s₁
  exact wpH_any (wpAny_bind (wpAny_mono h₁ (fun _ _ x => wpAny_pure x) fun _ _ x => x))
theorem roundF_facts : ∀ (rest : List (List Nat)) (hd : List Nat) (late : Nat) (met : Bool), hd ≠ [] → (∀ x ∈ rest, x ≠ []) →
    (roundF hd rest late met).1.flatten = hd ++ rest.flatten ∧ (roundF hd rest late met).1 ≠ [] ∧ (∀ x ∈ (roundF hd rest late met).1, x ≠ []) ∧ (roundF hd rest late met).1.length ≤ rest.length + 1 ∧ (roundF hd rest late met).2.2 ≤ late ∧
    (met = false → (roundF hd rest late met).2.1 = true → (roundF hd rest late met).1.length + (roundF hd rest late met).2.2 < rest.length + 1 + late)
  | [], hd, late, met, h1, h2 => by
    refine ⟨by simp [roundF], by simp [roundF], ?_, by simp [roundF], by simp [roundF], ?_⟩
    · intro x hx; simp [roundF] at hx; exact hx ▸ h1
    · intro a b; simp [roundF] at b; rw [a] at b; cases b
  | b :: rest, hd, late, met, h1, h2 => by
    have hb := h2 b (.head _)
    have hr : ∀ x ∈ rest, x ≠ [] := fun x hx => h2 x (.tail _ hx)
    unfold roundF
    split
    · split
      · obtain ⟨q1, q2, q3, q4, q5, q6⟩ := roundF_facts rest (hd ++ b) (late / 2) true (by simp [h1]) hr
        refine ⟨by rw [q1]; simp, q2, q3, by simp; omega, by omega, fun _ _ => by simp; omega⟩
      · rename_i hodd
        obtain ⟨q1, q2, q3, q4, q5, q6⟩ := roundF_facts rest b (late / 2) true hb hr
        refine ⟨by simp [q1], by simp, ?_, by simp; omega, by simp; omega, fun _ _ => by simp; omega⟩
        intro x hx; rcases List.mem_cons.mp hx with rfl | hx
        · exact h1
        · exact q3 x hx
    · obtain ⟨q1, q2, q3, q4, q5, q6⟩ := roundF_facts rest b late met hb hr
      refine ⟨by simp [q1], by simp, ?_, by simp; omega, by simp; omega, fun a c => by have := q6 a c; simp; omega⟩
      intro x hx; rcases List.mem_cons.mp hx with rfl | hx
      · exact h1
      · exact q3 x hx
inductive Till : List (List Nat) → Nat → List (List Nat) → Prop
  | stop {hd rest late} : (roundF hd rest late false).2.1 = false → Till (hd :: rest) late (roundF hd rest late false).1
  | go {hd rest late W} : (roundF hd rest late false).2.1 = true → Till (roundF hd rest late false).1 (roundF hd rest late false).2.2 W → Till (hd :: rest) late W
section
variable {w : World} {b₀ g : Heap} {outer : List Env} {frs : List (Addr × Obj)} {f : Addr → Array (Option Value)} {L a : Addr} {m : Str → Option Value} {name : Str} {scope : Scope} {cd : Value} {s : Shared} {dp un : Nat} {gd : Option (List Code)} {E : Value → Shared → Prop} {Q : Value → Shared → Prop}
  {lx dx pb : Addr} {t1 t2 t3 t4 : Tok} {ln : Int} {lt : Tok} {st : Value} {wt : Tok} {vs : List Value} {n : Nat} {late : Nat} {u : Tok} {hand : List Nat} {rest : List (List Nat)}
theorem roundK (H : Stand w b₀ g outer frs [lx, dx, pb]) (F : Fr g L s.heap m) (N : News g L s.heap ((lx, instObj 69 dx) :: (dx, dictOf (lexD w t1 t2 t3 t4 ln lt st wt pb) 4) :: (pb, listOf vs.toArray n) :: reSl f frs))
    (n1 : lx ≠ dx) (n2 : lx ≠ pb) (n3 : dx ≠ pb) (hvs : StrsAre vs ((hand :: rest).map wordS ++ [ofL []])) (hne : ∀ x ∈ hand :: rest, x ≠ []) (hlen : hand.length + rest.flatten.length ≤ 100) (hrl : rest.length ≤ 100) (hlate : late < 64)
    (hdp : dp + 31 < recursionLimit) (hun : un + 203 < cLine) (hk : scope.kind = .function)
    (h : ∀ h' tk l vs' n' k' t' f', Fr g L h' m → News g L h' ((l, ({ cls := .type "tuple", data := .seq #[.bool (roundF hand rest late false).2.1, .int ((roundF hand rest late false).2.2 : Int) t'] k' } : Obj)) :: (lx, instObj 69 dx) :: (dx, dictOf (lexD w t1 t2 t3 t4 ln lt st wt pb) 4) :: (pb, listOf (vs' : List Value).toArray n') :: reSl f' frs) →
      StrsAre vs' ((roundF hand rest late false).1.map wordS ++ [ofL []]) → Q (.ref l) { s with heap := h', toks := tk }) :
    wpH (model PR w) ((Aw none dp outer gd un).deeper (envOf name scope L a cd)) (call (.ref 112) [.ref lx, .int (late : Int) u]) Q E s := by
  obtain ⟨h₁, S⟩ := H.SF
  have hfl : frA (envOf name scope L a cd :: outer) = L :: frA outer := by unfold frA; rw [List.filterMap_cons]; rfl
  have m1 := N _ (.head _)
  have m2 := N _ (.tail _ (.head _))
  have m3 := N _ (.tail _ (.tail _ (.head _)))
  have hfp : ∀ a ∈ [lx, dx, pb], ∃ o, (a, o) ∈ ((lx, instObj 69 dx) :: (dx, dictOf (lexD w t1 t2 t3 t4 ln lt st wt pb) 4) :: (pb, listOf vs.toArray n) :: reSl f frs) := three ⟨_, .head _⟩ ⟨_, .tail _ (.head _)⟩ ⟨_, .tail _ (.tail _ (.head _))⟩
  refine wpH_call (round_c (dp := dp + 1) (un := un + 3) (outer := envOf name scope L a cd :: outer) (gd_here H F N (fun p hp => .tail _ (.tail _ (.tail _ hp))) hfp hk) m1.1 m2.1 m3.1 n1 n2 n3 hvs hne hlen hrl hlate (by omega) (by omega) fun h' tk l vs' n' k' t' hm e1 e2 e3 hv hl el => ?_)
  have nl : ∀ q, q ∈ ((lx, instObj 69 dx) :: (dx, dictOf (lexD w t1 t2 t3 t4 ln lt st wt pb) 4) :: (pb, listOf vs.toArray n) :: reSl f frs) → q.1 ≠ l := fun q hq e => by have := (N q hq).1; rw [e, hl] at this; cases this
  have notin : ∀ b o, g.get? b = some o → b ∉ [lx, dx, pb] := fun b o e q => by obtain ⟨o', ho⟩ := hfp b q; rw [show g.get? b = none from (N _ ho).2.2] at e; cases e
  refine h h' tk l vs' n' k' t' (fun a => ((h'.get? a).getD default).slots) ?_ ?_ hv
  · obtain ⟨oL, es, ep, hLo, r⟩ := F.ns
    obtain ⟨sl, hsl⟩ := hm.frs L (by rw [hfl]; exact .head _) oL hLo
    refine ⟨⟨_, es, ep, hsl, r⟩, fun b o e => hm.keep b o (F.keep b o e) (notin b o e) (fun q => ?_), F.above⟩
    rw [hfl] at q
    rcases List.mem_cons.mp q with rfl | q
    · exact absurd (Nat.lt_of_lt_of_le (Heap.lt_size e) F.above) (Nat.lt_irrefl _)
    · rw [← S.adr] at q
      obtain ⟨r', hr, rfl⟩ := List.mem_map.mp q
      have := (N (r'.1, { r'.2 with slots := f r'.1 }) (.tail _ (.tail _ (.tail _ (List.mem_map.mpr ⟨r', hr, rfl⟩))))).2.2
      rw [show g.get? r'.1 = none from this] at e; cases e
  · intro q hq
    rcases List.mem_cons.mp hq with rfl | hq
    · refine ⟨el, fun e => ?_, ?_⟩
      · obtain ⟨oL, _, _, hLo, _⟩ := F.ns
        rw [← show l = L from e, hl] at hLo; cases hLo
      · cases q : g.get? l with
        | none => rfl
        | some o => have := F.keep l o q; rw [hl] at this; cases this
    rcases List.mem_cons.mp hq with rfl | hq
    · exact ⟨e1, m1.2⟩
    rcases List.mem_cons.mp hq with rfl | hq
    · exact ⟨e2, m2.2⟩
    rcases List.mem_cons.mp hq with rfl | hq
    · exact ⟨e3, m3.2⟩
    obtain ⟨r, hr, rfl⟩ := List.mem_map.mp hq
    have z := N (r.1, { r.2 with slots := f r.1 }) (.tail _ (.tail _ (.tail _ (List.mem_map.mpr ⟨r, hr, rfl⟩))))
    obtain ⟨sl, hsl⟩ := hm.frs r.1 (by rw [hfl, ← S.adr]; exact .tail _ (List.mem_map_of_mem hr)) _ z.1
    refine ⟨?_, z.2⟩
    show h'.get? r.1 = some { r.2 with slots := ((h'.get? r.1).getD default).slots }
    rw [hsl]; rfl
end
abbrev tsM (lx : Addr) (met : Bool) (late : Nat) (tl : Tok) : Str → Option Value := fun y => if y = S "met" then some (.bool met) else if y = S "late" then some (.int (late : Int) tl) else if y = S "lexer" then some (.ref lx) else none
theorem ext_keys3 {m m' : Str → Option Value} (h3 : m (S "met") = m' (S "met")) (h4 : m (S "late") = m' (S "late")) (h5 : m (S "lexer") = m' (S "lexer")) (ho : ∀ y, y ≠ S "met" → y ≠ S "late" → y ≠ S "lexer" → m y = m' y) : m = m' := by
  funext y
  by_cases k3 : y = S "met"
  · rw [k3, h3]
  by_cases k4 : y = S "late"
  · rw [k4, h4]
  by_cases k5 : y = S "lexer"
  · rw [k5, h5]
  exact ho y k3 k4 k5
local macro_rules | `(tactic| k_all) => `(tactic| first | exact reSl_ne' (by assumption) | exact reSl_ne (by assumption))
theorem till_c {w : World} {b₀ : Heap} {dp un : Nat} {gd : Option (List Code)} {outer : List Env} {s : Shared} {R : Result → Shared → Prop}
    {lx dx pb : Addr} {t1 t2 t3 t4 : Tok} {ln : Int} {lt : Tok} {st : Value} {wt : Tok} {vs : List Value} {n : Nat} {late : Nat} {u : Tok} {hand : List Nat} {rest : List (List Nat)}
    (G : Gd w b₀ outer s.heap [lx, dx, pb]) (h1 : s.heap.get? lx = some (instObj 69 dx)) (h2 : s.heap.get? dx = some (dictOf (lexD w t1 t2 t3 t4 ln lt st wt pb) 4)) (h3 : s.heap.get? pb = some (listOf vs.toArray n))
    (n1 : lx ≠ dx) (n2 : lx ≠ pb) (n3 : dx ≠ pb) (hvs : StrsAre vs ((hand :: rest).map wordS ++ [ofL []])) (hne : ∀ x ∈ hand :: rest, x ≠ []) (hlen : hand.length + rest.flatten.length ≤ 100) (hrl : rest.length ≤ 100) (hlate : late < 64)
    (hdp : dp + 60 < recursionLimit) (hun : un + 300 < cLine)
    (ret : ∀ h' tk vs' n' W, ModF outer [lx, dx, pb] s.heap h' → h'.get? lx = some (instObj 69 dx) → h'.get? dx = some (dictOf (lexD w t1 t2 t3 t4 ln lt st wt pb) 4) → h'.get? pb = some (listOf (vs' : List Value).toArray n') →
      StrsAre vs' (W.map wordS ++ [ofL []]) → Till (hand :: rest) late W → R (.ok (.ret .none)) { s with heap := h', toks := tk }) :
    codeH (model PR w) (Aw none dp outer gd un) (.call (.ref 119) ⟨[.ref lx, .int (late : Int) u], []⟩) R s := by
  refine' enterH (binds := [(S "lexer", .ref lx), (S "late", .int (late : Int) u)]) (fps := [(lx, instObj 69 dx), (dx, dictOf (lexD w t1 t2 t3 t4 ln lt st wt pb) 4), (pb, listOf vs.toArray n)])
    (Φ := fun v' h' => Ex3 fun vs' n' W => An6 (v' = .none) (h'.get? lx = some (instObj 69 dx)) (h'.get? dx = some (dictOf (lexD w t1 t2 t3 t4 ln lt st wt pb) 4)) (h'.get? pb = some (listOf (vs' : List Value).toArray n')) (StrsAre vs' (W.map wordS ++ [ofL []])) (Till (hand :: rest) late W)) G ?hfp ?ho ?hcd ?hr ?hb ?hl ?body ?ret ?c1 ?c2 ?c3 ?c4
  case ho => k_dflt k_is
  case hcd => k_dflt k_is
  case hr => omega
  case hb => exact BindsTo.of_eq rfl
  case hl => exact locs rfl
  case c1 => rfl
  case c2 => rfl
  case c3 => rfl
  case c4 => decide
  · intro q hq; simp only [List.mem_cons, List.not_mem_nil, or_false] at hq; rcases hq with rfl | rfl | rfl <;> assumption
  · intro p loose mean mg mb g L' h₁ frs fs SF stg F N X T l1 l2 l3 hg
    simp only [List.cons_append, List.nil_append] at N
    have H : Stand w b₀ g outer frs [lx, dx, pb] := ⟨G.X, G.T, stg, ⟨_, SF⟩, three (l3 _ (.head _)) (l3 _ (.tail _ (.head _))) (l3 _ (.tail _ (.tail _ (.head _))))⟩
    have a1 : ∀ r ∈ frs, r.1 ≠ lx := fun r hr => (l3 _ (.head _) r hr).symm
    have a2 : ∀ r ∈ frs, r.1 ≠ dx := fun r hr => (l3 _ (.tail _ (.head _)) r hr).symm
    have a3 : ∀ r ∈ frs, r.1 ≠ pb := fun r hr => (l3 _ (.tail _ (.tail _ (.head _))) r hr).symm
    clear l1 l3
    refine h_cons (wpH_any ?_)
    k_steps
    rename_i F₁ N₁
    dsimp only
    refine h_cons (h_while (h_whileLoop (fun k s' => Ex8 fun h' tk met' late' tl' vs' n' f' => An4 (s' = { s with heap := h', toks := tk }) (Fr g L' h' (tsM lx met' late' tl')) (News g L' h' ((lx, instObj 69 dx) :: (dx, dictOf (lexD w t1 t2 t3 t4 ln lt st wt pb) 4) :: (pb, listOf (vs' : List Value).toArray n') :: reSl f' frs)) (((met' = false ∧ k = 0 ∧ ∃ W, StrsAre vs' (W.map wordS ++ [ofL []]) ∧ Till (hand :: rest) late W) ∨
       (met' = true ∧ ∃ hd rest', StrsAre vs' ((hd :: rest').map wordS ++ [ofL []]) ∧ (∀ x ∈ hd :: rest', x ≠ []) ∧ hd.length + rest'.flatten.length ≤ 100 ∧ rest'.length ≤ 100 ∧ late' < 64 ∧ k = rest'.length + 1 + late' ∧ ∀ W, Till (hd :: rest') late' W → Till (hand :: rest) late W)))) ?turn (rest.length + 1 + late) ?init))
    case init =>
      refine ⟨_, _, true, late, u, vs, n, fs, rfl, frEq F₁ (ext_keys3 rfl rfl rfl fun y k3 k4 k5 => ?_), N₁, .inr ⟨rfl, hand, rest, hvs, hne, hlen, hrl, hlate, rfl, fun W h => h⟩⟩
      simp only [tsM, if_neg k3, if_neg k4, if_neg k5, List.reverse_cons, List.reverse_nil, List.nil_append, List.cons_append, List.lookup, beq_eq_false_iff_ne.mpr k4, beq_eq_false_iff_ne.mpr k5]
    case turn =>
      clear F₁ N₁ hvs hne hlen hrl
      rintro k s' ⟨h', tk, met', late', tl', vs', n', f', rfl, F, N, ⟨rfl, rfl, W, hvs, hT⟩ | ⟨rfl, hw, rest', hvs, hne, hlen, hrl, hl64, rfl, hT⟩⟩
      · k_steps
        dsimp only
        refine h_nil ?_
        refine EndsF.of F N (f := f') (fun q hq => .tail _ (.tail _ (.tail _ hq))) ⟨_, _, W, rfl, (N _ (.head _)).1, (N _ (.tail _ (.head _))).1, (N _ (.tail _ (.tail _ (.head _)))).1, hvs, hT⟩
      · k_steps
        refine opqH fun QQ hQQ => ?_
        refine h_cons (h_assignTup (h_call ?_))
        k_steps
        refine h_withK (K := hd.heap_39 w.params) (by k_dflt k_is) ?_
        k_steps
        refine roundK H F N n1 n2 n3 hvs hne hlen hrl hl64 (by omega) (by omega) rfl fun h₂ tk₂ l vs₂ n₂ k₂ t₂ f₂ F₂ N₂ hv₂ => ?_
        clear F N
        k_steps
        rename_i F₃ N₃
        refine h_nil ?_
        try dsimp only
        refine hQQ _ _ ?_
        dsimp only
        clear hQQ
        obtain ⟨q1, q2, q3, q4, q5, q6⟩ := roundF_facts rest' hw late' false (hne _ (.head _)) (fun x hx => hne x (.tail _ hx))
        have Fe : Fr g L' _ (tsM lx (roundF hw rest' late' false).2.1 (roundF hw rest' late' false).2.2 t₂) := frEq F₃ (ext_keys3 rfl rfl rfl fun y k3 k4 k5 => by simp only [tsM, if_neg k3, if_neg k4, if_neg k5])
        have Ne := fun q hq => N₃ q (.tail _ hq)
        cases hm : (roundF hw rest' late' false).2.1 with
        | false =>
          refine ⟨0, by omega, _, _, _, _, _, _, _, f₂, rfl, Fe, Ne, .inl ⟨hm, rfl, _, hv₂, hT _ (.stop hm)⟩⟩
        | true =>
          have hlt := q6 rfl hm
          obtain ⟨hd2, rest2, e⟩ : ∃ a b, (roundF hw rest' late' false).1 = a :: b := by
            cases e : (roundF hw rest' late' false).1 with
            | nil => exact absurd e q2
            | cons a b => exact ⟨a, b, rfl⟩
          have hT' : ∀ W, Till (hd2 :: rest2) (roundF hw rest' late' false).2.2 W → Till (hand :: rest) late W := fun W h => hT W (.go hm (by rw [e]; exact h))
          rw [e] at hv₂ q1 q3 q4 hlt
          have q1' := congrArg List.length q1
          simp only [List.flatten_cons, List.length_append] at q1'
          simp only [List.length_cons] at q4 hlt
          exact ⟨rest2.length + 1 + (roundF hw rest' late' false).2.2, by omega, _, _, _, _, _, _, _, f₂, rfl, Fe, Ne, .inr ⟨hm, hd2, rest2, hv₂, q3, by omega, by omega, by omega, rfl, hT'⟩⟩
  · rintro v' h' tk hm ⟨vs', n', W, rfl, a, b, c, d, e⟩
    exact ret h' tk vs' n' W hm a b c d e
end Mine
end

section
set_option linter.unusedVariables false
namespace Mine
/-- they differ at a place -/
inductive Df : List Nat → List Nat → Prop
  | now {x y a b} : x < y → Df (x :: a) (y :: b)
  | later {x a b} : Df a b → Df (x :: a) (x :: b)
theorem Df.app {a b : List Nat} (h : Df a b) (s t : List Nat) : ltB (a ++ s) (b ++ t) = true := by
  induction h with
  | now h => simp [ltB]; rw [if_neg (Nat.ne_of_lt h)]; simpa using h
  | later _ ih => simpa [ltB] using ih
theorem Df.lt {a b : List Nat} (h : Df a b) : ltB a b = true := by simpa using h.app [] []
theorem lt_cases : ∀ {a b : List Nat}, ltB a b = true → Df a b ∨ ∃ c, c ≠ [] ∧ b = a ++ c
  | [], [], h => by cases h
  | [], y :: b, _ => .inr ⟨y :: b, by simp, rfl⟩
  | x :: a, [], h => by cases h
  | x :: a, y :: b, h => by
    by_cases e : x = y
    · subst e
      simp only [ltB, if_true] at h
      rcases lt_cases h with h | ⟨c, hc, rfl⟩
      · exact .inl (.later h)
      · exact .inr ⟨c, hc, rfl⟩
    · simp only [ltB, if_neg e, decide_eq_true_eq] at h
      exact .inl (.now h)
theorem lt_app {a c : List Nat} (h : c ≠ []) : ltB a (a ++ c) = true := by
  induction a with
  | nil => cases c with
    | nil => exact absurd rfl h
    | cons => rfl
  | cons x a ih => simpa [ltB] using ih
theorem lt_same (p a b : List Nat) : ltB (p ++ a) (p ++ b) = ltB a b := by
  induction p with
  | nil => rfl
  | cons x p ih => simpa [ltB] using ih
theorem lt_irr (a : List Nat) : ltB a a = false := by
  induction a with
  | nil => rfl
  | cons x a ih => simpa [ltB] using ih
theorem lt_tri : ∀ (a b : List Nat), ltB a b = true ∨ a = b ∨ ltB b a = true
  | [], [] => .inr (.inl rfl)
  | [], _ :: _ => .inl rfl
  | _ :: _, [] => .inr (.inr rfl)
  | x :: a, y :: b => by
    by_cases e : x = y
    · subst e
      rcases lt_tri a b with h | h | h
      · left; simpa [ltB] using h
      · right; left; rw [h]
      · right; right; simpa [ltB] using h
    · rcases Nat.lt_or_gt_of_ne e with h | h
      · left; simpa [ltB, e] using h
      · right; right; simpa [ltB, Ne.symm e] using h
theorem lt_trans : ∀ {a b c : List Nat}, ltB a b = true → ltB b c = true → ltB a c = true
  | _, _, [], _, h => by cases ‹List Nat› <;> cases h
  | [], _, _ :: _, _, _ => rfl
  | _ :: _, [], _ :: _, h, _ => by cases h
  | x :: a, y :: b, z :: c, h1, h2 => by
    simp only [ltB] at h1 h2 ⊢
    by_cases e1 : x = y
    · subst e1
      rw [if_pos rfl] at h1
      by_cases e2 : x = z
      · subst e2; rw [if_pos rfl] at h2 ⊢; exact lt_trans h1 h2
      · rw [if_neg e2] at h2 ⊢; exact h2
    · rw [if_neg e1, decide_eq_true_eq] at h1
      by_cases e2 : y = z
      · subst e2; rw [if_neg e1, decide_eq_true_eq]; exact h1
      · rw [if_neg e2, decide_eq_true_eq] at h2
        rw [if_neg (by omega), decide_eq_true_eq]; omega
theorem lt_asym {a b : List Nat} (h : ltB a b = true) : ltB b a = false := by
  cases q : ltB b a with
  | false => rfl
  | true => have := lt_trans h q; rw [lt_irr] at this; cases this
/-- le -/
theorem le_trans {a b c : List Nat} (h1 : ltB b a = false) (h2 : ltB c b = false) : ltB c a = false := by
  cases q : ltB c a with
  | false => rfl
  | true =>
    rcases lt_tri b c with h | h | h
    · rw [lt_trans h q] at h1; cases h1
    · subst h; rw [q] at h1; cases h1
    · rw [h] at h2; cases h2
theorem le_app {a b c : List Nat} (h : ltB b a = false) : ltB (b ++ c) a = false := by
  refine le_trans h ?_
  by_cases e : c = []
  · subst e; rw [List.append_nil]; exact lt_irr _
  · exact lt_asym (lt_app e)
structure Lyn (w : List Nat) : Prop where
  ne : w ≠ []
  suf : ∀ u v, w = u ++ v → u ≠ [] → v ≠ [] → ltB w v = true
theorem Lyn.one (x : Nat) : Lyn [x] := ⟨by simp, fun u v e hu hv => by
  cases u with
  | nil => exact absurd rfl hu
  | cons a u => cases u <;> cases v <;> simp_all⟩
theorem Lyn.le {w u v : List Nat} (h : Lyn w) (e : w = u ++ v) (hv : v ≠ []) : ltB v w = false := by
  by_cases hu : u = []
  · subst hu; rw [e]; exact lt_irr _
  · exact lt_asym (h.suf u v e hu hv)
theorem Lyn.df {w u v : List Nat} (h : Lyn w) (e : w = u ++ v) (hu : u ≠ []) (hv : v ≠ []) : Df w v := by
  rcases lt_cases (h.suf u v e hu hv) with h | ⟨c, hc, e'⟩
  · exact h
  · have h1 := congrArg List.length e
    have h2 := congrArg List.length e'
    have h3 := List.length_pos_iff.mpr hu
    simp at h1 h2; omega
theorem Lyn.merge {u v : List Nat} (hu : Lyn u) (hv : Lyn v) (h : ltB u v = true) : Lyn (u ++ v) := by
  have hw : ltB (u ++ v) v = true := by
    rcases lt_cases h with d | ⟨c, hc, e⟩
    · simpa using d.app v []
    · have hc' : ltB v c = true := hv.suf u c e hu.ne hc
      conv => rhs
      calc ltB (u ++ v) v = ltB (u ++ v) (u ++ c) := by rw [← e]
        _ = ltB v c := lt_same _ _ _
        _ = true := hc'
  refine ⟨by simp [hu.ne], fun a b e ha hb => ?_⟩
  rcases List.append_eq_append_iff.mp e with ⟨c, rfl, e2⟩ | ⟨c, e1, rfl⟩
  · by_cases hc : c = []
    · subst hc; simp at e2; rw [← e2]; exact hw
    · exact lt_trans hw (hv.suf c b e2 hc hb)
  · by_cases hc : c = []
    · subst hc; simpa using hw
    · exact (hu.df e1 ha hc).app v v
end Mine
namespace Mine
/-- a row of Lyndon words, none older than the next -/
def Chn : List (List Nat) → Prop
  | [] => True
  | w :: ws => Lyn w ∧ (∀ v ∈ ws.head?, ltB w v = false) ∧ Chn ws
theorem Chn.tail {w ws} (h : Chn (w :: ws)) : Chn ws := h.2.2
theorem Chn.skip {w v ws} (h : Chn (w :: v :: ws)) : Chn (w :: ws) := by
  refine ⟨h.1, fun u hu => ?_, h.2.2.2.2⟩
  exact le_trans (h.2.2.2.1 u hu) (h.2.1 v rfl)
theorem flat_lt : ∀ (ws : List (List Nat)) (v : List Nat), Chn (v :: ws) → ltB ws.flatten (v ++ ws.flatten) = true
  | [], v, h => by
    have := lt_app (a := []) (c := v) h.1.ne
    simpa using this
  | w :: ws, v, h => by
    have hw := h.2.1 w rfl
    have ih1 := flat_lt ws w h.2.2
    have ih2 := flat_lt ws v h.skip
    simp only [List.flatten_cons]
    rcases lt_tri w v with q | q | q
    · rcases lt_cases q with d | ⟨c, hc, e⟩
      · exact d.app _ _
      · have dv : Df v c := h.1.df e h.2.2.1.ne hc
        have : ltB ws.flatten (c ++ (w ++ ws.flatten)) = true := lt_trans ih2 (dv.app _ _)
        have e2 : v ++ (w ++ ws.flatten) = w ++ (c ++ (w ++ ws.flatten)) := by
          conv => lhs; rw [e]
          simp
        rw [e2, lt_same]; exact this
    · subst q; rw [lt_same]; exact ih1
    · rw [q] at hw; cases hw
termination_by ws => ws.length
def isCut (C : List Nat) (i : Nat) : Bool := (List.range i).all fun j => ltB (C.drop i) (C.drop j)
def cutsOf (C : List Nat) : List Nat := (List.range C.length).filter (isCut C)
def starts : List (List Nat) → List Nat
  | [] => []
  | w :: ws => 0 :: (starts ws).map (w.length + ·)
theorem isCut_iff {C : List Nat} {i : Nat} : isCut C i = true ↔ ∀ j, j < i → ltB (C.drop i) (C.drop j) = true := by
  simp [isCut, List.all_eq_true, List.mem_range]
theorem cut_shift {w : List Nat} {ws : List (List Nat)} (h : Chn (w :: ws)) (i : Nat) : isCut (w ++ ws.flatten) (w.length + i) = isCut ws.flatten i := by
  have dr : ∀ k, (w ++ ws.flatten).drop (w.length + k) = ws.flatten.drop k := fun k => by simp [List.drop_append]
  rw [Bool.eq_iff_iff, isCut_iff, isCut_iff]
  constructor
  · intro hc j hj
    have := hc (w.length + j) (by omega)
    rwa [dr, dr] at this
  · intro hc j hj
    rw [dr]
    by_cases hjw : w.length ≤ j
    · obtain ⟨k, rfl⟩ := Nat.exists_eq_add_of_le hjw
      rw [dr]; exact hc k (by omega)
    · have h1 := flat_lt ws w h
      have h2 : ltB (ws.flatten.drop i) (w ++ ws.flatten) = true := by
        by_cases hi : i = 0
        · subst hi; simpa using h1
        · have := hc 0 (by omega)
          rw [List.drop_zero] at this
          exact lt_trans this h1
      by_cases hj0 : j = 0
      · subst hj0; simpa using h2
      · refine lt_trans h2 ?_
        have e : w = w.take j ++ w.drop j := (List.take_append_drop j w).symm
        have d := h.1.df e (List.ne_nil_of_length_pos (by rw [List.length_take]; omega)) (List.ne_nil_of_length_pos (by rw [List.length_drop]; omega))
        rw [List.drop_append_of_le_length (by omega)]
        exact d.app _ _
theorem cut_in {w : List Nat} {ws : List (List Nat)} (h : Chn (w :: ws)) (i : Nat) (h0 : 0 < i) (hi : i < w.length) : isCut (w ++ ws.flatten) i = false := by
  rw [Bool.eq_false_iff]
  intro hc
  have := isCut_iff.mp hc 0 h0
  have e : w = w.take i ++ w.drop i := (List.take_append_drop i w).symm
  have d := h.1.df e (List.ne_nil_of_length_pos (by rw [List.length_take]; omega)) (List.ne_nil_of_length_pos (by rw [List.length_drop]; omega))
  rw [List.drop_append_of_le_length (by omega), List.drop_zero] at this
  have h2 := d.app ws.flatten ws.flatten
  rw [lt_asym h2] at this; cases this
theorem cuts_starts : ∀ ws : List (List Nat), Chn ws → cutsOf ws.flatten = starts ws
  | [], _ => rfl
  | w :: ws, h => by
    have ih := cuts_starts ws h.2.2
    unfold cutsOf at *
    simp only [List.flatten_cons, List.length_append, starts]
    rw [List.range_add, List.filter_append, List.filter_map]
    have e1 : (List.range w.length).filter (isCut (w ++ ws.flatten)) = [0] := by
      obtain ⟨k, hk⟩ : ∃ k, w.length = k + 1 := ⟨w.length - 1, by have := List.length_pos_iff.mpr h.1.ne; omega⟩
      rw [hk, List.range_succ_eq_map, List.filter_cons, if_pos (by rfl)]
      congr 1
      rw [List.filter_eq_nil_iff]
      intro a ha
      obtain ⟨b, hb, rfl⟩ := List.mem_map.mp ha
      rw [cut_in h (b + 1) (by omega) (by have := List.mem_range.mp hb; omega)]
      exact Bool.false_ne_true
    rw [e1]
    rw [show (isCut (w ++ ws.flatten) ∘ fun x => w.length + x) = isCut ws.flatten from funext fun i => cut_shift h i, ih]
    rfl
/-- the pieces between the cuts -/
def piece (xs : List Nat) (p : Nat × Nat) : List Nat := (xs.take p.2).drop p.1
theorem piece_shift (w xs : List Nat) (p : Nat × Nat) : piece (w ++ xs) (w.length + p.1, w.length + p.2) = piece xs p := by
  unfold piece
  simp only [List.take_append, List.drop_append, List.length_take]
  rw [List.take_of_length_le (by omega), List.drop_of_length_le (by omega)]
  simp
theorem pieces_are : ∀ W : List (List Nat), ((starts W).zip ((starts W).tail ++ [W.flatten.length])).map (piece W.flatten) = W
  | [] => rfl
  | [w] => by simp [starts, piece]
  | w :: v :: ws => by
    have ih := pieces_are (v :: ws)
    have e : starts (w :: v :: ws) = 0 :: (starts (v :: ws)).map (w.length + ·) := rfl
    have e0 : starts (v :: ws) = 0 :: (starts ws).map (v.length + ·) := rfl
    have e2 : (starts (w :: v :: ws)).tail ++ [(w :: v :: ws).flatten.length] = w.length :: ((starts (v :: ws)).tail ++ [(v :: ws).flatten.length]).map (w.length + ·) := by
      rw [e, e0]; simp
    rw [e2, e, List.zip_cons_cons, List.map_cons]
    have hz : ((starts (v :: ws)).map (w.length + ·)).zip (((starts (v :: ws)).tail ++ [(v :: ws).flatten.length]).map (w.length + ·)) = ((starts (v :: ws)).zip ((starts (v :: ws)).tail ++ [(v :: ws).flatten.length])).map (fun p => (w.length + p.1, w.length + p.2)) := by
      rw [List.zip_map]; rfl
    rw [hz, List.map_map]
    have : (piece (w :: v :: ws).flatten ∘ fun p => (w.length + p.1, w.length + p.2)) = piece (v :: ws).flatten := funext fun p => by
      show piece (w :: v :: ws).flatten (w.length + p.1, w.length + p.2) = _
      rw [List.flatten_cons]; exact piece_shift _ _ _
    rw [this, ih]
    congr 1
    simp [piece]
theorem starts_codes : ∀ W : List (List Nat), starts (W.map codesL) = starts W
  | [] => rfl
  | w :: ws => by simp [starts, starts_codes ws, codesL]
theorem codes_flatten : ∀ W : List (List Nat), (W.map codesL).flatten = codesL W.flatten
  | [] => rfl
  | w :: ws => by simp [codes_flatten ws, codes_append]
def LynAll (W : List (List Nat)) : Prop := ∀ w ∈ W, Lyn (codesL w)
theorem round_lyn : ∀ (rest : List (List Nat)) (hd : List Nat) (late : Nat) (met : Bool), LynAll (hd :: rest) → LynAll (roundF hd rest late met).1
  | [], hd, late, met, h => by simpa [roundF] using h
  | b :: rest, hd, late, met, h => by
    have hh := h hd (.head _)
    have hb := h b (.tail _ (.head _))
    have hr : ∀ x ∈ rest, Lyn (codesL x) := fun x hx => h x (.tail _ (.tail _ hx))
    unfold roundF
    split
    · rename_i hlt
      split
      · refine round_lyn rest (hd ++ b) _ _ fun x hx => ?_
        rcases List.mem_cons.mp hx with rfl | hx
        · rw [codes_append]; exact hh.merge hb hlt
        · exact hr x hx
      · have := round_lyn rest b (late / 2) true fun x hx => h x (.tail _ hx)
        intro x hx
        rcases List.mem_cons.mp hx with rfl | hx
        · exact hh
        · exact this x hx
    · have := round_lyn rest b late met fun x hx => h x (.tail _ hx)
      intro x hx
      rcases List.mem_cons.mp hx with rfl | hx
      · exact hh
      · exact this x hx
theorem round_met : ∀ (rest : List (List Nat)) (hd : List Nat) (late : Nat), (roundF hd rest late true).2.1 = true
  | [], _, _ => rfl
  | b :: rest, hd, late => by
    unfold roundF
    split
    · split
      · exact round_met rest _ _
      · exact round_met rest _ _
    · exact round_met rest _ _
theorem round_flat : ∀ (rest : List (List Nat)) (hd : List Nat) (late : Nat) (met : Bool), (roundF hd rest late met).1.flatten = hd ++ rest.flatten
  | [], hd, late, met => by simp [roundF]
  | b :: rest, hd, late, met => by
    unfold roundF
    split
    · split
      · rw [round_flat rest]; simp
      · simp [round_flat rest]
    · simp [round_flat rest]
theorem round_still : ∀ (rest : List (List Nat)) (hd : List Nat) (late : Nat), LynAll (hd :: rest) → (roundF hd rest late false).2.1 = false → (roundF hd rest late false).1 = hd :: rest ∧ Chn ((hd :: rest).map codesL)
  | [], hd, late, h, _ => ⟨rfl, h hd (.head _), (fun _ h => nomatch h), trivial⟩
  | b :: rest, hd, late, h, hm => by
    by_cases q : ltB (codesL hd) (codesL b) = true
    · rw [roundF, if_pos q] at hm
      split at hm
      · rw [round_met] at hm; cases hm
      · simp only [round_met] at hm; cases hm
    · rw [roundF, if_neg q] at hm ⊢
      obtain ⟨e, c⟩ := round_still rest b late (fun x hx => h x (.tail _ hx)) hm
      refine ⟨by show hd :: _ = _; rw [e], h hd (.head _), fun v hv => ?_, c⟩
      cases hv
      simpa using q
theorem till_is {Ws : List (List Nat)} {late : Nat} {W : List (List Nat)} (h : Till Ws late W) : LynAll Ws → W.flatten = Ws.flatten ∧ Chn (W.map codesL) := by
  induction h with
  | @stop hd rest late hm =>
    intro hl
    obtain ⟨e, c⟩ := round_still rest hd late hl hm
    rw [e]; exact ⟨rfl, c⟩
  | @go hd rest late W hm _ ih =>
    intro hl
    obtain ⟨e, c⟩ := ih (round_lyn rest hd late false hl)
    exact ⟨by rw [e, round_flat]; simp, c⟩
theorem Till.ne {Ws : List (List Nat)} {late : Nat} {W : List (List Nat)} (h : Till Ws late W) : W ≠ [] := by
  induction h with
  | @stop hd rest late hm => cases rest with
    | nil => simp [roundF]
    | cons b r => rw [roundF]; split; split <;> (try simp); (intro q; have := round_flat r (hd ++ b) (late / 2) true; have hm' := hm; rw [roundF] at hm'; simp_all [round_met]); simp
  | go _ _ ih => exact ih
theorem codes_drop (xs : List Nat) (i : Nat) : (codesL xs).drop i = codesL (xs.drop i) := by simp [codesL]
/-- the law's own words are those of the rounds -/
theorem chen {xs : List Nat} {late : Nat} {W : List (List Nat)} (h : Till (xs.map fun x => [x]) late W) :
    W.flatten = xs ∧ cutsOf (codesL xs) = starts W ∧ ((starts W).zip ((starts W).tail ++ [xs.length])).map (piece xs) = W := by
  have hl : LynAll (xs.map fun x => [x]) := fun w hw => by
    obtain ⟨x, _, rfl⟩ := List.mem_map.mp hw
    exact Lyn.one _
  obtain ⟨e, c⟩ := till_is h hl
  have ex : (xs.map fun x => [x]).flatten = xs := by
    clear h hl e
    induction xs with
    | nil => rfl
    | cons x xs ih => simp [ih]
  rw [ex] at e
  refine ⟨e, ?_, ?_⟩
  · have := cuts_starts _ c
    rw [codes_flatten, starts_codes, e] at this
    exact this
  · have := pieces_are W
    rw [e] at this; exact this
end Mine
end

section
open PySem PySem.W PySem.Calls PyProof.Rows
set_option maxRecDepth 100000
set_option maxHeartbeats 4000000
set_option linter.unusedVariables false
namespace Mine
theorem ofL_app (a b : List Nat) : ofL a ++ ofL b = ofL (a ++ b) := by
  show (⟨a.toArray ++ b.toArray⟩ : Str) = ⟨(a ++ b).toArray⟩
  simp
theorem fmodN (x k : Nat) : ((x : Int).fmod (k : Int)) = ((x % k : Nat) : Int) := by simp [Int.fmod_eq_emod]
theorem fdivN (x k : Nat) : ((x : Int).fdiv (k : Int)) = ((x / k : Nat) : Int) := by simp [Int.fdiv_eq_ediv]
theorem item_sep (x : Nat) : Txt.item (Str.ofString "._+-") (((x : Int).fdiv 16).fmod 4) = ofL [sepN x] := by
  have e : ((x : Int).fdiv 16).fmod 4 = ((x / 16 % 4 : Nat) : Int) := by
    rw [show (16 : Int) = ((16 : Nat) : Int) from rfl, fdivN, show (4 : Int) = ((4 : Nat) : Int) from rfl, fmodN]
  have key : ∀ a : Fin 4, Txt.item (Str.ofString "._+-") ((a.val : Nat) : Int) = ofL [match a.val with | 0 => 46 | 1 => 95 | 2 => 43 | _ => 45] := by decide +kernel
  rw [e]
  exact key ⟨x / 16 % 4, Nat.mod_lt _ (by decide)⟩
theorem nought_any (x : Nat) : ([12, 13].any fun y => y == (x : Int).fmod 16) = decide (x % 16 = 12 ∨ x % 16 = 13) := by
  rw [show (16 : Int) = ((16 : Nat) : Int) from rfl, fmodN]
  rw [Bool.eq_iff_iff]
  simp
  omega
theorem nought_two (x : Nat) : ((x : Int).fdiv 64).fmod 2 = ((x / 64 % 2 : Nat) : Int) := by
  rw [show (64 : Int) = ((64 : Nat) : Int) from rfl, fdivN, show (2 : Int) = ((2 : Nat) : Int) from rfl, fmodN]
theorem nought_1 {x : Nat} (h1 : ([12, 13].any fun y => y == (x : Int).fmod 16) = true) (h2 : ((x : Int).fdiv 64).fmod 2 = 1) : Str.ofString "0" = ofL (noughtN x) := by
  rw [nought_any, decide_eq_true_eq] at h1
  rw [nought_two] at h2
  unfold noughtN; rw [if_pos ⟨h1, by omega⟩]; decide +kernel
theorem nought_2 {x : Nat} (h2 : ((x : Int).fdiv 64).fmod 2 ≠ 1) : Str.ofString "" = ofL (noughtN x) := by
  rw [nought_two] at h2
  unfold noughtN; rw [if_neg (by omega)]; decide +kernel
theorem nought_3 {x : Nat} (h1 : ([12, 13].any fun y => y == (x : Int).fmod 16) = false) : Str.ofString "" = ofL (noughtN x) := by
  rw [nought_any, decide_eq_false_iff_not] at h1
  unfold noughtN; rw [if_neg (by omega)]; decide +kernel
theorem cutQ {α : Type} {M : Model} {A : Around} {E : Value → Shared → Prop} {s : Shared} {t : Sem α} {Q : α → Shared → Prop} (P : α → Shared → Prop) (h1 : ∀ Q : α → Shared → Prop, (∀ a s', P a s' → Q a s') → wpAny M A t Q E s) (h2 : ∀ a s', P a s' → Q a s') : wpAny M A t Q E s := h1 Q h2
abbrev partsS : List Str := [Str.ofString " ", Str.ofString "\"", Str.ofString "\\", Str.ofString "x", Str.ofString "dev", Str.ofString "a", Str.ofString "alpha", Str.ofString "b", Str.ofString "beta", Str.ofString "c", Str.ofString "RC", Str.ofString "rc", Str.ofString "9", Str.ofString "10", Str.ofString "p", Str.ofString "pl"]
theorem addLen {prog : Program} {w : World} {A : Around} {E : Value → Shared → Prop} {s : Shared} {a b : Str} {t u : Tok} {Q : Value → Shared → Prop} (hl : a.length + b.length ≤ 1000000) (h : ∀ t' k, Q (.str (a ++ b) t') { s with toks := k }) :
    wpAny (model prog w) A (binaryOp .Add (.str a t) (.str b u)) Q E s :=
  PySem.SB.add h (by have h3 : sizeLine = 16777216 := rfl
                     omega)
theorem StrsAre.at : ∀ {vs : List Value} {xs : List Str}, StrsAre vs xs → ∀ (i : Nat) (h : i < xs.length), ∃ t, vs[i]? = some (.str xs[i] t)
  | _, _, .cons _, 0, _ => ⟨_, rfl⟩
  | _, _, .cons a, i + 1, h => by
    obtain ⟨t, e⟩ := a.at i (by simpa using h)
    exact ⟨t, by simpa using e⟩
theorem part_at (c : Nat) (h : c < 16) : partsS[c]'h = ofL (partN c) := by
  have key : ∀ a : Fin 16, partsS[a.val]'a.isLt = ofL (partN a.val) := by decide +kernel
  exact key ⟨c, h⟩
theorem itemW {w : World} {A : Around} {E : Value → Shared → Prop} {s : Shared} {value slice : PySem.Expr} {l : Addr} {vs : List Value} {n : Nat} {x : Nat} {u : Tok} {h₀ : Heap} {L : Addr} {news : List (Addr × Obj)} {Q : Value → Shared → Prop} (N : News h₀ L s.heap news) (hm : (l, listOf vs.toArray n) ∈ news) (hv : StrsAre vs partsS)
    (h : ∀ t, Q (.str (ofL (partN (x % 16))) t) s) (hs : subscripted slice false (.ref l) (.int ((x : Int).fmod 16) u) = operate [.ref l, .int ((x : Int).fmod 16) u] (getItem (.ref l) (.int ((x : Int).fmod 16) u))) :
    wpAny (model PR w) A (subscriptTail value slice (.ref l) (.int ((x : Int).fmod 16) u)) Q E s := by
  have hl : s.heap.IsList l vs.toArray := ⟨_, (N _ hm).1, rfl, n, rfl⟩
  have e : (x : Int).fmod 16 = ((x % 16 : Nat) : Int) := fmodN x 16
  have hlt : x % 16 < 16 := Nat.mod_lt _ (by decide)
  rw [e] at hs ⊢
  obtain ⟨t, et⟩ := hv.at (x % 16) hlt
  rw [part_at _ hlt] at et
  exact tail_any hl.typeIs slot_list_getitem.lookup (wpAny_getItem_list hl (Int.natCast_nonneg _) (by omega) (by show vs.toArray[x % 16]? = _; simpa using et) (h t)) hs
theorem part_len (c : Nat) : (ofL (partN c)).length ≤ 5 := by
  unfold partN; split <;> decide
theorem word_c {w : World} {b₀ : Heap} {hn : Option Value} {dp un : Nat} {gd : Option (List Code)} {outer : List Env} {s : Shared} {R : Result → Shared → Prop} {x : Nat} {u : Tok}
    (G : Gd w b₀ outer s.heap []) (hx : x < 1536) (hdp : dp + 10 < recursionLimit) (hun : un + 100 < cLine)
    (ret : ∀ h' tk t, Mod [] s.heap h' → R (.ok (.ret (.str (ofL (wordL x)) t))) { s with heap := h', toks := tk }) :
    codeAny (model PR w) (Aw hn dp outer gd un) (.call (.ref 93) ⟨[.int (x : Int) u], []⟩) R s := by
  refine' enter (binds := [(S "x", .int (x : Int) u)]) (fps := []) (Φ := fun v' h' => ∃ t, v' = .str (ofL (wordL x)) t) G ?hfp ?ho ?hcd ?hr ?hb ?hl ?body ?ret ?c1 ?c2 ?c3 ?c4
  case ho => k_dflt k_is
  case hcd => k_dflt k_is
  case hr => omega
  case hb => exact BindsTo.of_eq rfl
  case hl => exact locs rfl
  case c1 => rfl
  case c2 => rfl
  case c3 => rfl
  case c4 => decide
  · intro q hq; cases hq
  · intro p loose mean mg mb g L' h₁ F N B X T l1
    clear l1 ret G
    refine wpAny_execs_cons ?_
    with_reducible refine cutQ (fun (f : Flow) (s' : Shared) => f = .next ∧ Ex4 fun h' tk l vs => An4 (s' = { s with heap := h', toks := tk }) (Fr g L' h' (fun y => if y = S "parts" then some (.ref l) else if y = S "x" then some (.int (x : Int) u) else none)) (News g L' h' [(l, listOf (vs : List Value).toArray 0)]) (StrsAre vs partsS)) ?q1 ?q2
    case q1 =>
      intro Q hQ
      k_steps
      rename_i F1 N1
      refine hQ _ _ ⟨rfl, _, _, _, _, rfl, frEq F1 ?_, N1, ?_⟩
      · funext y
        by_cases k1 : y = S "parts"
        · simp only [k1, if_true]
        by_cases k2 : y = S "x"
        · subst k2; rfl
        simp only [if_neg k1, if_neg k2, List.reverse_cons, List.reverse_nil, List.nil_append, List.lookup, beq_eq_false_iff_ne.mpr k2]
      · exact .cons (.cons (.cons (.cons (.cons (.cons (.cons (.cons (.cons (.cons (.cons (.cons (.cons (.cons (.cons (.cons .nil)))))))))))))))
    clear F N
    rintro f s' ⟨rfl, h', tk, l, vs, rfl, F, N, hvs⟩
    dsimp only
    refine wpAny_execs_cons ?_
    with_reducible refine cutQ (fun (f : Flow) (s' : Shared) => f = .next ∧ Ex3 fun h' tk t => An3 (s' = { s with heap := h', toks := tk }) (Fr g L' h' (fun y => if y = S "nought" then some (.str (ofL (noughtN x)) t) else if y = S "parts" then some (.ref l) else if y = S "x" then some (.int (x : Int) u) else none)) (News g L' h' [(l, listOf (vs : List Value).toArray 0)])) ?p1 ?p2
    case p1 =>
      intro Q hQ
      k_steps
      all_goals (rename_i F1 N1; (first | rw [show Str.ofString "0" = ofL (noughtN x) from nought_1 (by assumption) (by assumption)] at F1 | rw [show Str.ofString "" = ofL (noughtN x) from nought_2 (by assumption)] at F1 | rw [show Str.ofString "" = ofL (noughtN x) from nought_3 (by assumption)] at F1); exact hQ _ _ ⟨rfl, _, _, _, rfl, F1, fun q hq => N1 q (by first | exact hq | exact .tail _ hq)⟩)
    clear F N
    rintro f s' ⟨rfl, h', tk, t, rfl, F, N⟩
    dsimp only
    refine wpAny_execs_cons ?_
    have hnl : (ofL (noughtN x)).length ≤ 1 := by unfold noughtN; split <;> decide
    have hsl : (ofL [sepN x]).length = 1 := rfl
    k_steps
    refine itemW N (.head _) hvs ?_ (by with_unfolding_all rfl)
    intro t
    have hpl := part_len (x % 16)
    k_steps
    dsimp only
    exact Ends.of (by assumption) ⟨_, congrArg (fun z => Value.str z _) (by rw [item_sep, ofL_app, ofL_app]; simp [wordL])⟩
  · rintro v' h' tk hm ⟨t, rfl⟩
    exact ret h' tk t hm
end Mine
end

section
open PySem PySem.W PySem.Calls PyProof.Rows
set_option maxRecDepth 100000
set_option maxHeartbeats 4000000
set_option linter.unusedVariables false
namespace Mine
def escN (q c : Nat) : List Nat := if c = q ∨ c = 92 then [92, c] else [c]
def gapN (x : Nat) : Nat := match x / 384 % 4 with | 0 => 32 | 1 => 10 | 2 => 9 | _ => 13
def writL (x : Nat) : List Nat :=
  if x / 128 % 3 = 0 then (wordL x).flatMap (escN 32) ++ [gapN x]
  else if x / 128 % 3 = 1 then (wordL x).flatMap (fun c => [92, c]) ++ [gapN x]
  else [34] ++ (wordL x).flatMap (escN 34) ++ [34] ++ [gapN x]
theorem strs_list : ∀ {vs : List Value} {xs : List Str}, StrsAre vs xs → ∃ l : List (Str × Tok), vs = strValues l ∧ l.map (·.1) = xs
  | _, _, .nil => ⟨[], rfl, rfl⟩
  | _, _, .cons (x := x) (t := t) a => by
    obtain ⟨l, h1, h2⟩ := strs_list a
    exact ⟨(x, t) :: l, by rw [h1]; rfl, by rw [List.map_cons, h2]⟩
theorem glued_ofL : ∀ (xss : List (List Nat)), Builtin.Str.glued (Str.ofString "") (xss.map ofL) = ofL xss.flatten := by
  intro xss
  have key : ∀ (r : List (List Nat)) (acc : Array Nat), (r.map ofL).foldl (fun acc p => acc ++ (Str.ofString "").cps ++ p.cps) acc = acc ++ r.flatten.toArray := by
    intro r
    induction r with
    | nil => intro acc; simp
    | cons a r ih =>
      intro acc
      rw [List.map_cons, List.foldl_cons, ih]
      show acc ++ #[] ++ a.toArray ++ r.flatten.toArray = acc ++ (a :: r).flatten.toArray
      simp
  cases xss with
  | nil => rfl
  | cons a r =>
    show (⟨(r.map ofL).foldl (fun acc p => acc ++ (Str.ofString "").cps ++ p.cps) a.toArray⟩ : Str) = ⟨(a :: r).flatten.toArray⟩
    rw [key]; simp
theorem joinK {prog : Program} {w : World} {A : Around} {E : Value → Shared → Prop} {s : Shared} {D : Addr} {t : Tok} {vs : List Value} {n : Nat} {xss : List (List Nat)} {h₀ : Heap} {L : Addr} {news : List (Addr × Obj)} {Q : Value → Shared → Prop} (N : News h₀ L s.heap news) (hm : (D, listOf vs.toArray n) ∈ news)
    (hv : StrsAre vs (xss.map ofL)) (hz : xss.flatten.length ≤ 1000000) (h : ∀ t' k, Q (.str (ofL xss.flatten) t') { s with toks := k }) :
    wpAny (model prog w) A (call (.builtin "str.join") [.str (Str.ofString "") t, .ref D]) Q E s := by
  obtain ⟨l, rfl, hl⟩ := strs_list hv
  refine SC.join (texts := xss.map ofL) ⟨_, (N _ hm).1, rfl, n, rfl⟩ hl ?_ fun t' k => ?_
  · refine joinOk_of ?_
    have e : ((xss.map ofL).map (·.length)).sum = xss.flatten.length := by
      rw [List.map_map, List.length_flatten]
      rfl
    rw [e]
    show _ + _ * 0 ≤ _
    omega
  · show Q (.str (Builtin.Str.glued (Str.ofString "") (xss.map ofL)) t') _
    rw [glued_ofL]; exact h t' k
theorem signs_pair {f : Nat → List Nat} {vs zs : List Value} (hF : Paired (fun v r => Ex3 fun c u t => An2 (v = Value.str (ofL [c]) u) (r = Value.str (ofL (f c)) t)) vs zs) : ∀ {xs : List Nat}, vs.length = xs.length →
    (∀ (j : Nat) (v : Value), vs[j]? = some v → ∃ (c : Nat) (u : Tok), xs[j]? = some c ∧ v = Value.str (ofL [c]) u) → StrsAre zs ((xs.map f).map ofL) := by
  induction hF with
  | nil => intro xs hl _; cases xs with
    | nil => exact .nil
    | cons a b => simp at hl
  | @cons a b l1 l2 hab _ ih =>
    intro xs hl hP
    cases xs with
    | nil => simp at hl
    | cons c xs =>
      obtain ⟨c', u, t', ha, rfl⟩ := hab
      obtain ⟨c'', u', hc, ha'⟩ := hP 0 a rfl
      simp at hc
      subst hc
      rw [ha] at ha'
      have : c' = c := by
        have e := (Value.str.inj ha').1
        have e2 : [c'] = [c] := by
          have := congrArg (fun z : Str => z.cps.toList) e
          simpa [ofL] using this
        simpa using e2
      subst this
      exact .cons (ih (by simpa using hl) (fun j v hj => hP (j + 1) v (by simpa using hj)))
section
variable {w : World} {A : Around} {E : Value → Shared → Prop} {s : Shared} {h₀ : Heap} {L : Addr} {m : Str → Option Value} {news : List (Addr × Obj)} {env : Env}
theorem signsK {elt iter : PySem.Expr} {x : Str} {px : Pos} {scope : Scope} {pos : Pos} {Q : Value → Shared → Prop} {xs : List Nat} (f : Nat → List Nat)
    (hh : A.handled = none) (hfree : ∀ y ∈ scope.names, y.2 ≠ .free) (hcell : ∀ y ∈ scope.names, y.2 ≠ .cell) (hkind : scope.kind = .function)
    (hnames : ∀ y ∈ scope.names, y.2 = .local → scope.names.lookup y.1 = some .local) (hx : scope.names.lookup x = some .local)
    (h : wpAny (model PR w) A (eval iter env) (fun xv s₁ => ∃ t, xv = .str (ofL xs) t ∧ xs.length ≤ 1000 ∧ Fr h₀ L s₁.heap m ∧ News h₀ L s₁.heap news ∧
      (∀ C c u s₂ m₂ E', c ∈ xs → s₂.heap.Ns (compEnv scope C env).locals m₂ → m₂ x = some (.str (ofL [c]) u) →
        wpAny (model PR w) A (eval elt (compEnv scope C env)) (fun r s₃ => (∃ t, r = .str (ofL (f c)) t) ∧ Keeps s₂ s₃) E' s₂) ∧
      (∀ D vs h' tk k, Fr h₀ L h' m → News h₀ L h' ((D, listOf (vs : List Value).toArray k) :: news) → (∀ p ∈ news, p.1 ≠ D) → StrsAre vs ((xs.map f).map ofL) → Q (.ref D) { s₁ with heap := h', toks := tk })) E s)
    (hs : ∀ x, foldedSetIterable iter env x = pure x) :
    wpAny (model PR w) A (eval (.ListComp elt [⟨.Name x px, iter, [], 0⟩] scope pos) env) Q E s := by
  refine wpAny_ListComp_walk (fun _ => true) (fun v r => Ex3 fun c u t => An2 (v = .str (ofL [c]) u) (r = .str (ofL (f c)) t)) hfree hcell hkind hnames hx
    (wpAny_mono h (fun xv s₁ h₁ => ?_) fun _ _ e => e) hs
  obtain ⟨t, rfl, hsz, F, N, helt, hQ⟩ := h₁
  refine wpAny_pyIter_str fun o St W hst => ?_
  have up : ∀ (h' : Heap), (∀ b o', b ∉ [s₁.heap.objs.size] → (s₁.heap.push o).get? b = some o' → h'.get? b = some o') → ∀ b o', s₁.heap.get? b = some o' → h'.get? b = some o' :=
    fun h' hk b o' e => hk b o' (old_not_new e) (Heap.get?_push_of_some _ e)
  refine ⟨s₁.heap.objs.size, [s₁.heap.objs.size], [s₁.heap.objs.size], (ofL xs).cps.size, SignAt (ofL xs), St, rfl, W A hh, ?_, hst, ?_, ⟨?_, ?_⟩, ?_⟩
  · show xs.toArray.size ≤ _
    have : sizeLine = 16777216 := rfl
    simp; omega
  · intro b hb
    show b < (s₁.heap.push o).objs.size
    rw [Heap.size_push, List.mem_singleton.mp hb]
    exact Nat.lt_succ_self _
  · intro C i v s₃ m₃ E' hP hn hm _ _
    exact wpAny_tests_nil ⟨rfl, s₃.heap, s₃.toks, rfl, fun _ _ e => e⟩
  · intro C i v s₃ m₃ E' hP _ hn hm _ _
    obtain ⟨c, u, hc, rfl⟩ := hP
    have hmem : c ∈ xs := by
      have : xs.toArray[i]? = some c := hc
      simp at this
      exact List.mem_of_getElem? this
    exact wpAny_mono (helt C c u s₃ m₃ E' hmem hn hm) (fun r s₄ h₄ => ⟨⟨c, u, _, rfl, h₄.1.choose_spec⟩, h₄.2⟩) fun _ _ e => e
  · intro D h' tk ys vs hnew hlD hplD hlen hP hF hk
    have hD₀ : h₀.get? D = none := by
      cases e : h₀.get? D with
      | none => rfl
      | some o' => rw [Heap.get?_push_of_some _ (F.keep _ _ e)] at hnew; cases hnew
    have hDL : D ≠ L := fun e => by
      obtain ⟨oL, _, _, hLo, _⟩ := F.ns
      rw [e, Heap.get?_push_of_some _ hLo] at hnew; cases hnew
    have hne : ∀ p ∈ news, p.1 ≠ D := fun p hp e => by rw [← e, Heap.get?_push_of_some _ (N p hp).1] at hnew; cases hnew
    obtain ⟨k, hpl⟩ := hplD
    have hst : StrsAre ys.toList ((xs.map f).map ofL) := by
      have hv : vs.filter (fun _ => true) = vs := by simp
      rw [hv] at hF
      have hlen' : vs.length = xs.length := hlen
      have hP' : ∀ (j : Nat) (v : Value), vs[j]? = some v → ∃ (c : Nat) (u : Tok), xs[j]? = some c ∧ v = Value.str (ofL [c]) u := fun j v hj => by
        obtain ⟨c, u, hc, rfl⟩ := hP j v hj
        have : xs.toArray[j]? = some c := hc
        exact ⟨c, u, by simpa using this, rfl⟩
      exact signs_pair hF hlen' hP'
    refine hQ D ys.toList h' tk k (F.keeps (up h' hk)) ?_ hne hst
    intro p hp
    rcases List.mem_cons.mp hp with rfl | hp
    · exact ⟨by rw [Array.toArray_toList]; exact hpl, hDL, hD₀⟩
    · exact (N.grown (up h' hk)) p hp
end
end Mine
end

section
open PySem PySem.W PySem.Calls PyProof.Rows
set_option maxRecDepth 100000
set_option maxHeartbeats 4000000
set_option linter.unusedVariables false
namespace Mine
section
variable {w : World} {A : Around} {E' : Value → Shared → Prop} {s₂ : Shared} {env : Env} {scope : Scope} {C : Addr} {m₂ : Str → Option Value} {c : Nat} {u : Tok}
theorem bsl : Str.ofString "\\" = ofL [92] := by decide +kernel
theorem elt_add {p4 p5 p6 k2} {s : Shared} {Q : Value → Shared → Prop} (hkind : scope.kind = .function) (hl : scope.names.lookup (S "sign") = some .local) (hn : s.heap.Ns (compEnv scope C env).locals m₂) (hm : m₂ (S "sign") = some (.str (ofL [c]) u))
    (h : ∀ t k, Q (.str (ofL [92, c]) t) { s with toks := k }) :
    wpAny (model PR w) A (eval (.BinOp (.Constant (.str "\\") k2 p4) .Add (.Name (S "sign") p5) p6) (compEnv scope C env)) Q E' s := by
  refine wpAny_BinOp (wpAny_Constant_str (ldG (cenv := compEnv scope C env) hn hm ?_ hkind hl (by decide)))
  refine addLen ?_ fun t k => ?_
  · exact Nat.le_of_ble_eq_true rfl
  · show Q (.str (Str.ofString "\\" ++ ofL [c]) t) _
    rw [bsl, ofL_app]; exact h t k
theorem elt_esc {p1 p2 p3 p4 p5 p6 p7 p8 k1 k2} {q : Nat} {x : Str} (hkind : scope.kind = .function) (hl : scope.names.lookup (S "sign") = some .local) (hn : s₂.heap.Ns (compEnv scope C env).locals m₂) (hm : m₂ (S "sign") = some (.str (ofL [c]) u))
    (hocc : (Builtin.Str.occurrences x (ofL [c]) 0 x.length 1).isEmpty = !(decide (c = q ∨ c = 92))) :
    wpAny (model PR w) A (eval (.IfExp (.Compare (.Name (S "sign") p1) [.In] [.Constant (.str x) k1 p2] p3) (.BinOp (.Constant (.str "\\") k2 p4) .Add (.Name (S "sign") p5) p6) (.Name (S "sign") p7) p8) (compEnv scope C env))
      (fun r s₃ => (∃ t, r = .str (ofL (escN q c)) t) ∧ Keeps s₂ s₃) E' s₂ := by
  refine wpAny_IfExp (wpAny_isTrue_Compare1 (ldG (cenv := compEnv scope C env) hn hm ?_ hkind hl (by decide)))
  refine wpAny_Constant_str (in_str (wpAny_truthy_bool ?_))
  rw [hocc, Bool.not_not]
  unfold escN
  split <;> rename_i hh
  · rw [if_pos (by simpa using hh)]
    exact elt_add hkind hl hn hm fun t k => ⟨⟨t, rfl⟩, _, _, rfl, fun _ _ e => e⟩
  · rw [if_neg (by simpa using hh)]
    exact ldG (cenv := compEnv scope C env) hn hm ⟨⟨u, rfl⟩, _, _, rfl, fun _ _ e => e⟩ hkind hl (by decide)
theorem occ_b {c : Nat} (h : c < 128) : (Builtin.Str.occurrences (Str.ofString " \\") (ofL [c]) 0 (Str.ofString " \\").length 1).isEmpty = !(decide (c = 32 ∨ c = 92)) := by
  have key : ∀ a : Fin 128, (Builtin.Str.occurrences (Str.ofString " \\") (ofL [a.val]) 0 (Str.ofString " \\").length 1).isEmpty = !(decide (a.val = 32 ∨ a.val = 92)) := by decide +kernel
  exact key ⟨c, h⟩
theorem occ_q {c : Nat} (h : c < 128) : (Builtin.Str.occurrences (Str.ofString "\"\\") (ofL [c]) 0 (Str.ofString "\"\\").length 1).isEmpty = !(decide (c = 34 ∨ c = 92)) := by
  have key : ∀ a : Fin 128, (Builtin.Str.occurrences (Str.ofString "\"\\") (ofL [a.val]) 0 (Str.ofString "\"\\").length 1).isEmpty = !(decide (a.val = 34 ∨ a.val = 92)) := by decide +kernel
  exact key ⟨c, h⟩
theorem word_small (x : Nat) : ∀ c ∈ wordL x, c < 128 := by
  have key : ∀ a : Fin 16, ∀ c ∈ partN a.val, c < 128 := by decide +kernel
  intro c hc
  unfold wordL at hc
  rcases List.mem_cons.mp hc with rfl | hc
  · rcases sep_cases x with h | h | h | h <;> rw [h] <;> decide
  · rcases List.mem_append.mp hc with hc | hc
    · unfold noughtN at hc
      split at hc
      · simp at hc; omega
      · cases hc
    · exact key ⟨x % 16, Nat.mod_lt _ (by decide)⟩ c hc
end
theorem gdA {w : World} {b₀ g h : Heap} {hn : Option Value} {dp un : Nat} {gd : Option (List Code)} {outer : List Env} {h₁ : Heap} {fp : List Addr} {L a : Addr} {m : Str → Option Value} {name : Str} {scope : Scope} {cd : Value}
    (G : Gd w b₀ outer h₁ fp) (B : Below (Aw hn dp outer gd un) b₀ outer g) (F : Fr g L h m) (hk : scope.kind = .function) : Gd w b₀ (envOf name scope L a cd :: outer) h [] := by
  have P := pushX (env := envOf name scope L a cd) B F rfl hk
  exact ⟨G.X, G.T, P.stays, P.frames, fun _ q => absurd q List.not_mem_nil⟩
section
variable {w : World} {b₀ g : Heap} {hn : Option Value} {dp un : Nat} {gd : Option (List Code)} {outer : List Env} {h₁ : Heap} {fp : List Addr} {L a : Addr} {m : Str → Option Value} {name : Str} {scope : Scope} {cd : Value} {s : Shared} {news : List (Addr × Obj)} {E : Value → Shared → Prop} {Q : Value → Shared → Prop} {x : Nat} {u : Tok}
theorem wordK (G : Gd w b₀ (envOf name scope L a cd :: outer) s.heap []) (F : Fr g L s.heap m) (N : News g L s.heap news) (hx : x < 1536) (hdp : dp + 12 < recursionLimit) (hun : un + 110 < cLine)
    (h : ∀ h' tk t, Fr g L h' m → News g L h' news → Q (.str (ofL (wordL x)) t) { s with heap := h', toks := tk }) :
    wpAny (model PR w) ((Aw hn dp outer gd un).deeper (envOf name scope L a cd)) (call (.ref 93) [.int (x : Int) u]) Q E s := by
  refine wpAny_call (word_c (dp := dp + 1) (un := un + 3) G hx (by omega) (by omega) fun h' tk t hm => ?_)
  exact h h' tk t (fr_mod F N (fun _ q => absurd q List.not_mem_nil) hm) (news_mod N hm fun q hq => .inl ⟨hq, List.not_mem_nil⟩)
end
end Mine
end

section
open PySem PySem.W PySem.Calls PyProof.Rows
set_option maxRecDepth 100000
set_option maxHeartbeats 4000000
set_option linter.unusedVariables false
namespace Mine
section
variable {w : World} {A : Around} {E : Value → Shared → Prop} {s : Shared} {h₀ : Heap} {L a : Addr} {m : Str → Option Value} {news : List (Addr × Obj)} {cn : Str} {cs : Scope} {ccd : Value} {cl : List (Str × Addr)}
theorem signsN {elt : PySem.Expr} {z x : Str} {px pz : Pos} {scope : Scope} {pos : Pos} {Q : Value → Shared → Prop} {xs : List Nat} {t : Tok} (f : Nat → List Nat) (F : Fr h₀ L s.heap m) (N : News h₀ L s.heap news) (hv : m z = some (.str (ofL xs) t)) (hl : xs.length ≤ 1000) (hh : A.handled = none)
    (helt : ∀ C c u s₂ m₂ E', c ∈ xs → s₂.heap.Ns (compEnv scope C (envX cn cs L a ccd cl)).locals m₂ → m₂ x = some (.str (ofL [c]) u) →
        wpAny (model PR w) A (eval elt (compEnv scope C (envX cn cs L a ccd cl))) (fun r s₃ => (∃ t, r = .str (ofL (f c)) t) ∧ Keeps s₂ s₃) E' s₂)
    (h : ∀ D vs h' tk k, Fr h₀ L h' m → News h₀ L h' ((D, listOf (vs : List Value).toArray k) :: news) → (∀ p ∈ news, p.1 ≠ D) → StrsAre vs ((xs.map f).map ofL) → Q (.ref D) { s with heap := h', toks := tk })
    (hfree : ∀ y ∈ scope.names, y.2 ≠ .free) (hcell : ∀ y ∈ scope.names, y.2 ≠ .cell) (hkind : scope.kind = .function)
    (hnames : ∀ y ∈ scope.names, y.2 = .local → scope.names.lookup y.1 = some .local) (hx : scope.names.lookup x = some .local)
    (hk : cs.kind = .function) (hz : (envX cn cs L a ccd cl).kindOf z = some .local) (hd : (z == ("__debug__" : Str)) = false) :
    wpAny (model PR w) A (eval (.ListComp elt [⟨.Name x px, .Name z pz, [], 0⟩] scope pos) (envX cn cs L a ccd cl)) Q E s :=
  signsK f hh hfree hcell hkind hnames hx (nameX_L F hv ⟨t, rfl, hl, F, N, helt, h⟩ hk hz hd) (fun _ => rfl)
end
theorem flat_len (f : Nat → List Nat) (hf : ∀ c, (f c).length ≤ 2) : ∀ xs : List Nat, ((xs.map f).flatten).length ≤ 2 * xs.length
  | [] => by simp
  | c :: xs => by
    have := flat_len f hf xs; have := hf c
    simp only [List.map_cons, List.flatten_cons, List.length_append, List.length_cons]; omega
theorem esc_len (q c : Nat) : (escN q c).length ≤ 2 := by unfold escN; split <;> simp
theorem item_gap (x : Nat) : Txt.item (Str.ofString " \n\t\r") (((x : Int).fdiv 384).fmod 4) = ofL [gapN x] := by
  have e : ((x : Int).fdiv 384).fmod 4 = ((x / 384 % 4 : Nat) : Int) := by
    rw [show (384 : Int) = ((384 : Nat) : Int) from rfl, fdivN, show (4 : Int) = ((4 : Nat) : Int) from rfl, fmodN]
  have key : ∀ a : Fin 4, Txt.item (Str.ofString " \n\t\r") ((a.val : Nat) : Int) = ofL [match a.val with | 0 => 32 | 1 => 10 | 2 => 9 | _ => 13] := by decide +kernel
  rw [e]
  exact key ⟨x / 384 % 4, Nat.mod_lt _ (by decide)⟩
theorem kind_of (x : Nat) : ((x : Int).fdiv 128).fmod 3 = ((x / 128 % 3 : Nat) : Int) := by
  rw [show (128 : Int) = ((128 : Nat) : Int) from rfl, fdivN, show (3 : Int) = ((3 : Nat) : Int) from rfl, fmodN]
local macro_rules | `(tactic| walk_at "call ref") => `(tactic| (k_here; k_dflt (refine wordK (gdA (by assumption) (by assumption) (by k_asm) rfl) (by k_asm) (by k_asm) (by assumption) (by omega) (by omega) ?_); intro h' tk' t' F' N'))
local macro_rules | `(tactic| walk_at "eval ListComp") => `(tactic| (k_here; k_dflt (first
  | (refine signsN (escN 32) (by k_asm) (by k_asm) rfl (by omega) rfl (by intro C c u s₂ m₂ E' hc hn hm; exact elt_esc rfl rfl hn hm (occ_b (word_small _ c hc))) ?_ (by decide) (by decide) rfl (by decide) rfl rfl rfl (by decide))
  | (refine signsN (escN 34) (by k_asm) (by k_asm) rfl (by omega) rfl (by intro C c u s₂ m₂ E' hc hn hm; exact elt_esc rfl rfl hn hm (occ_q (word_small _ c hc))) ?_ (by decide) (by decide) rfl (by decide) rfl rfl rfl (by decide))
  | (refine signsN (fun c => [92, c]) (by k_asm) (by k_asm) rfl (by omega) rfl (by intro C c u s₂ m₂ E' hc hn hm; exact elt_add rfl rfl hn hm fun t k => ⟨⟨t, rfl⟩, _, _, rfl, fun _ _ e => e⟩) ?_ (by decide) (by decide) rfl (by decide) rfl rfl rfl (by decide))); intro D' vs' h' tk' k' F' N' ne' hst'))
theorem flat_e (x : Nat) (q : Nat) : (((wordL x).map (escN q)).flatten).length ≤ 16 := by have := flat_len (escN q) (esc_len q) (wordL x); have := word_len x; omega
theorem flat_a (x : Nat) : (((wordL x).map (fun c => [92, c])).flatten).length ≤ 16 := by have := flat_len (fun c => [92, c]) (fun c => by simp) (wordL x); have := word_len x; omega
local macro_rules | `(tactic| walk_at "call builtin:str.join") => `(tactic| (k_here; k_dflt (refine joinK (by k_asm) (by k_mem) (by assumption) (by first | exact Nat.le_trans (flat_e _ _) (by decide) | exact Nat.le_trans (flat_a _) (by decide)) ?_); intro t' k'))
theorem ofL_len (xs : List Nat) : (ofL xs).length = xs.length := by show xs.toArray.size = _; simp
theorem quo_len : (Str.ofString "\"").length = 1 := by decide +kernel
theorem quo_is : Str.ofString "\"" = ofL [34] := by decide +kernel
local macro_rules | `(tactic| walk_at "binaryOp Add str str") => `(tactic| (k_here; k_dflt (refine addLen (by simp only [Str.length_append, ofL_len, quo_len] at *; omega) ?_); intro t' tk'))
theorem written_c {w : World} {b₀ : Heap} {dp un : Nat} {gd : Option (List Code)} {outer : List Env} {s : Shared} {R : Result → Shared → Prop} {x : Nat} {u : Tok}
    (G : Gd w b₀ outer s.heap []) (hx : x < 1536) (hdp : dp + 30 < recursionLimit) (hun : un + 200 < cLine)
    (ret : ∀ h' tk t, Mod [] s.heap h' → R (.ok (.ret (.str (ofL (writL x)) t))) { s with heap := h', toks := tk }) :
    codeAny (model PR w) (Aw none dp outer gd un) (.call (.ref 98) ⟨[.int (x : Int) u], []⟩) R s := by
  refine' enter (binds := [(S "x", .int (x : Int) u)]) (fps := []) (Φ := fun v' h' => ∃ t, v' = .str (ofL (writL x)) t) G ?hfp ?ho ?hcd ?hr ?hb ?hl ?body ?ret ?c1 ?c2 ?c3 ?c4
  case ho => k_dflt k_is
  case hcd => k_dflt k_is
  case hr => omega
  case hb => exact BindsTo.of_eq rfl
  case hl => exact locs rfl
  case c1 => rfl
  case c2 => rfl
  case c3 => rfl
  case c4 => decide
  · intro q hq; cases hq
  · intro p loose mean mg mb g L' h₁ F N B X T l1
    clear l1 ret
    have hwl := word_len x
    have hwl' : (wordL x).length ≤ 1000 := by omega
    have hf1 := flat_e x 32
    have hf2 := flat_e x 34
    have hf3 := flat_a x
    have hq : (Txt.item (Str.ofString " \n\t\r") (((x : Int).fdiv 384).fmod 4)).length = 1 := by rw [item_gap]; rfl
    have h3 : (x / 128 % 3 : Nat) < 3 := Nat.mod_lt _ (by decide)
    k_steps
    · have hk : ((x : Int).fdiv 128).fmod 3 = 0 := by assumption
      rw [kind_of] at hk
      exact Ends.of (by assumption) ⟨_, congrArg (fun z => Value.str z _) (by rw [item_gap, ofL_app]; unfold writL; rw [if_pos (by omega)]; simp [List.flatMap])⟩
    · have hk : ¬ ((x : Int).fdiv 128).fmod 3 = 0 := by assumption
      have hj : ((x : Int).fdiv 128).fmod 3 = 1 := by assumption
      rw [kind_of] at hk hj
      exact Ends.of (by assumption) ⟨_, congrArg (fun z => Value.str z _) (by rw [item_gap, ofL_app]; unfold writL; rw [if_neg (by omega), if_pos (by omega)]; simp [List.flatMap])⟩
    · have hk : ¬ ((x : Int).fdiv 128).fmod 3 = 0 := by assumption
      have hj : ¬ ((x : Int).fdiv 128).fmod 3 = 1 := by assumption
      rw [kind_of] at hk hj
      exact Ends.of (by assumption) ⟨_, congrArg (fun z => Value.str z _) (by rw [item_gap, quo_is, ofL_app, ofL_app, ofL_app]; unfold writL; rw [if_neg (by omega), if_neg (by omega)]; simp [List.flatMap])⟩
  · rintro v' h' tk hm ⟨t, rfl⟩
    exact ret h' tk t hm
end Mine
end

section
open PySem PySem.W PySem.Calls PyProof.Rows
open Sem (wp)
set_option maxRecDepth 100000
set_option maxHeartbeats 2000000
set_option linter.unusedVariables false
namespace Mine
theorem slot_ci_next : Slot "callable_iterator" "__next__" "callable_iterator.__next__" :=
  .of (owner := "callable_iterator") (n := "__next__") (by rw [typeLookup_type, builtinLookup_eq_fast]; kernel_rfl) (by decide +kernel) (by decide +kernel) (by decide +kernel)
    (by first | exact .inl (by decide +kernel) | exact .inr (by decide +kernel)) (by rw [isSubtype_type]; kernel_rfl)
theorem entry_ci_next : entryFor table "callable_iterator.__next__" = some Builtin.«callable_iterator.__next__» := entryFor_of_tree (by kernel_rfl)
theorem owner_ci : Manifest.owners.lookup (String.ofList ['r', 'o', 't', 'a', 'r', 'e', 't', 'i', '_', 'e', 'l', 'b', 'a', 'l', 'l', 'a', 'c'].reverse) = some Manifest.sig_callable_iterator := by kernel_rfl
theorem args_ci_next (a : Value) : argsOk "callable_iterator.__next__" ⟨[a], []⟩ := by
  unfold argsOk; rw [signature?_of (id := "callable_iterator.__next__") (n := ['_', '_', 't', 'x', 'e', 'n', '_', '_']) (o := ['r', 'o', 't', 'a', 'r', 'e', 't', 'i', '_', 'e', 'l', 'b', 'a', 'l', 'l', 'a', 'c']) (by kernel_rfl) owner_ci]; kernel_rfl
theorem slot_ci_iter : Slot "callable_iterator" "__iter__" "callable_iterator.__iter__" :=
  .of (owner := "callable_iterator") (n := "__iter__") (by rw [typeLookup_type, builtinLookup_eq_fast]; kernel_rfl) (by decide +kernel) (by decide +kernel) (by decide +kernel)
    (by first | exact .inl (by decide +kernel) | exact .inr (by decide +kernel)) (by rw [isSubtype_type]; kernel_rfl)
theorem entry_ci_iter : entryFor table "callable_iterator.__iter__" = some Builtin.«dict_keyiterator.__iter__» :=
  entryFor_alias (id' := "dict_keyiterator.__iter__") (by kernel_rfl) rfl (by decide +kernel) (by kernel_rfl)
theorem args_ci_iter (a : Value) : argsOk "callable_iterator.__iter__" ⟨[a], []⟩ := by
  unfold argsOk; rw [signature?_of (id := "callable_iterator.__iter__") (n := ['_', '_', 'r', 'e', 't', 'i', '_', '_']) (o := ['r', 'o', 't', 'a', 'r', 'e', 't', 'i', '_', 'e', 'l', 'b', 'a', 'l', 'l', 'a', 'c']) (by kernel_rfl) owner_ci]; kernel_rfl
abbrev ciObj (q : Addr) (ts : Tok) : Obj := { cls := .type "callable_iterator", data := .fields #[.ref q, .str (Str.ofString "") ts, .bool false] }
theorem wpAny_callBorrowed {M : Model} {A : Around} {f : Value} {pos : List Value} {Q : Value → Shared → Prop} {E : Value → Shared → Prop} {s : Shared} (h : wpAny M A (call f pos) Q E s) : wpAny M A (callBorrowed f pos) Q E s := fun Γ p hΓ => by
  have h' := h Γ p hΓ
  rw [Sem.wp_cmd_call] at h'
  refine wpCode_mono (fun r s' hr => ?_) h'
  cases r with
  | error e => exact hr
  | ok f => cases f <;> exact hr
section
variable {w : World} {A : Around} {E : Value → Shared → Prop} {s : Shared}
theorem ci_iter {it q : Addr} {ts : Tok} {Q : Value → Shared → Prop} (hit : s.heap.get? it = some (ciObj q ts)) (h : Q (.ref it) s) :
    wpAny (model PR w) A (pyIter (.ref it)) Q E s := by
  have hT : s.TypeIs (.ref it) "callable_iterator" := ⟨_, hit, rfl⟩
  refine wpAny_pyIter_slot hT slot_ci_iter (wpAny_call_entry slot_ci_iter hT entry_ci_iter ?_ (args_ci_iter _))
  show wpAny _ _ (ret (.ref it)) _ _ s
  exact wpAny_pure ⟨_, rfl, "callable_iterator", _, hT, slot_ci_next.lookup, h⟩
theorem borrows {q f : Addr} {self : Value} {of : Obj} {fd : FuncData} {Q : Bool → Shared → Prop} (hq : s.heap.get? q = some (methodObj (.ref f) self)) (hf : s.heap.get? f = some of) (hd : of.data = .func fd) (h : Q true s) :
    wpAny (model PR w) A (borrowsExactly (.ref q)) Q E s := by
  unfold borrowsExactly
  refine wpAny_bind (wpAny_load hq ?_)
  show wpAny _ _ (load f >>= _) _ _ s
  refine wpAny_bind (wpAny_load hf ?_)
  rw [hd]
  exact wpAny_pure h
theorem ci_next {it q f : Addr} {self : Value} {ts : Tok} {of : Obj} {fd : FuncData} {Q : Option Value → Shared → Prop}
    (hh : A.handled = none) (hit : s.heap.get? it = some (ciObj q ts)) (hq : s.heap.get? q = some (methodObj (.ref f) self)) (hf : s.heap.get? f = some of) (hd : of.data = .func fd)
    (h : codeAny (model PR w) A.in1 (.call (.ref f) ⟨[self], []⟩) (fun r s' => match r with
      | .ok (.ret v) => ∃ xs t, v = .str (ofL xs) t ∧ s'.heap.get? it = some (ciObj q ts) ∧ s'.heap.get? q = some (methodObj (.ref f) self) ∧ s'.heap.get? f = some of ∧
          ((xs ≠ [] ∧ Q (some v) s') ∨ (xs = [] ∧ ∀ h', Heap.ExtBut it s'.heap h' → Q none { s' with heap := h' }))
      | .ok _ => False
      | .error e => False) s) :
    wpAny (model PR w) A (pyNext (.ref it)) Q E s := by
  have hT : s.TypeIs (.ref it) "callable_iterator" := ⟨_, hit, rfl⟩
  unfold pyNext
  refine wpAny_bind (wpAny_attempt (wpAny_callSpecial?_slot (name := Str.ofString "__next__") hT slot_ci_next
    (wpAny_call_entry slot_ci_next hT entry_ci_next ?_ (args_ci_next _))))
  unfold Builtin.«callable_iterator.__next__»
  refine wpAny_bind (wpAny_pure ?_)
  refine wpAny_bind (wpAny_field hit rfl (x := .bool false) rfl ?_)
  show wpAny _ _ (field (.ref it) 0 >>= _) _ _ s
  refine wpAny_bind (wpAny_field hit rfl (x := .ref q) rfl ?_)
  refine wpAny_bind (wpAny_attempt ?_)
  unfold callOutOfASlot
  refine wpAny_bind (borrows hq hf hd ?_)
  rw [if_pos rfl]
  refine wpAny_callBorrowed (wpAny_call (method_call hq (codeAny_mono h fun r s' hr => ?_)))
  cases r with
  | error e => exact hr.elim
  | ok fl =>
    cases fl with
    | ret v =>
      obtain ⟨xs, t, rfl, hit', hq', hf', hcase⟩ := hr
      dsimp only
      refine wpAny_bind (wpAny_field hit' rfl (x := .bool false) rfl ?_)
      show wpAny _ _ (field (.ref it) 1 >>= _) _ _ s'
      refine wpAny_bind (wpAny_field hit' rfl (x := .str (Str.ofString "") ts) rfl ?_)
      refine wpAny_bind (wpAny_holding ((SeqRoads2.EqGives.str (Str.ofString "") (ofL xs) ts t) _ _ _ _ _ _ ?_))
      rcases hcase with ⟨hne, hQ⟩ | ⟨rfl, hQ⟩
      · have e : ((Str.ofString "").cps.toList == (ofL xs).cps.toList) = false := by
          cases xs with
          | nil => exact absurd rfl hne
          | cons a b => rfl
        rw [e]
        exact wpAny_bind (wpAny_pure (wpAny_pure ⟨_, rfl, wpAny_bind (wpAny_pure (wpAny_pure hQ))⟩))
      · have e : ((Str.ofString "").cps.toList == (ofL []).cps.toList) = true := rfl
        rw [e]
        refine wpAny_bind (wpAny_rule ?_)
        refine wpAny_bind ?_
        refine wpAny_bind (m := field (.ref it) 0) (wpAny_field hit' rfl (x := .ref q) rfl ?_)
        refine wpAny_bind ?_
        unfold slotLetsGo
        refine wpAny_bind (borrows hq' hf' hd ?_)
        rw [if_pos rfl]
        refine wpAny_pure ?_
        refine wpAny_bind (m := setField (.ref it) 0 .none) (wpAny_setField hit' rfl (by simp) ?_)
        have g1 : (s'.heap.update it (Obj.mapFields fun x => x.setIfInBounds 0 Value.none)).get? it = some { ciObj q ts with data := .fields #[.none, .str (Str.ofString "") ts, .bool false] } := Heap.get?_update_self _ hit' (Obj.isFreed_of_fields (Obj.data_mapFields rfl _))
        refine wpAny_bind (wpAny_setField (s := { s' with heap := _ }) g1 rfl (by simp) ?_)
        have g2 : ((s'.heap.update it (Obj.mapFields fun x => x.setIfInBounds 0 Value.none)).update it (Obj.mapFields fun x => x.setIfInBounds 1 Value.none)).get? it = some { ciObj q ts with data := .fields #[.none, .none, .bool false] } := Heap.get?_update_self _ g1 (Obj.isFreed_of_fields (Obj.data_mapFields rfl _))
        refine wpAny_setField (s := { s' with heap := _ }) g2 rfl (by simp) ?_
        show wpAny _ _ (newExc (.type "StopIteration") [] >>= _) _ _ _
        refine wpAny_bind ?_
        simp only [newExc, newTuple]
        refine wpAny_bind (wpAny_newObj_type ?_ (by size_fits))
        refine wpAny_bind (m := firstArgMember _ _) (wpAny_of_eq (a := Value.none) (by first | rfl | (simp only [firstArgMember]; rfl)) ?_)
        refine wpAny_newObj_type ?_ (by size_fits)
        simp only [raiseNew]
        refine wpAny_bind (wpAny_handled ?_)
        rw [show A.in1.handled = none from hh]
        refine wpAny_bind (wpAny_pure (wpAny_throw ?_))
        refine wpAny_bind (wpAny_isInstance (T := "StopIteration") (b := true) ⟨_, Heap.get?_push_size _ rfl, rfl⟩ isSubtype_stop ?_)
        exact wpAny_pure (hQ _ (((((Heap.SameBut.update ..).trans (Heap.SameBut.update ..)).trans (Heap.SameBut.update ..)).extBut.push _).push _))
    | next => exact hr.elim
    | brk => exact hr.elim
    | cont => exact hr.elim
theorem args_iter2 (a b : Value) : argsOk "iter" ⟨[a, b], []⟩ := by unfold argsOk; kernel_rfl
theorem call_of_method : ∃ v, typeLookup (.type "method") (Str.ofString "__call__") = pure (some v) := ⟨.builtin "method.__call__", by rw [typeLookup_type, builtinLookup_eq_fast]; kernel_rfl⟩
theorem iterK {h₀ : Heap} {L q f : Addr} {m : Str → Option Value} {self : Value} {ts : Tok} {news : List (Addr × Obj)} {Q : Value → Shared → Prop} (F : Fr h₀ L s.heap m) (N : News h₀ L s.heap news) (hq : (q, methodObj (.ref f) self) ∈ news)
    (h : ∀ it h', Fr h₀ L h' m → News h₀ L h' ((it, ciObj q ts) :: news) → (∀ p ∈ news, p.1 < it) → Q (.ref it) { s with heap := h' }) :
    wpAny (model PR w) A (call (.builtin "iter") [.ref q, .str (Str.ofString "") ts]) Q E s := by
  refine call_function_entry (by decide +kernel) (by decide +kernel) kdk_entry_iter (args_iter2 _ _) ?_
  unfold Builtin.«iter»
  refine wpAny_bind (m := someArgs "iter" 1 2 _) (wpAny_of_eq (a := [Value.ref q, .str (Str.ofString "") ts]) (by first | rfl | kernel_rfl!) ?_)
  obtain ⟨v, hv⟩ := call_of_method
  refine wpAny_bind (wpAny_specialOf ⟨_, (N _ hq).1, rfl⟩ hv ?_)
  show wpAny _ _ (newFields "callable_iterator" [Value.ref q, .str (Str.ofString "") ts, .bool false] >>= _) _ _ _
  refine wpAny_bind (wpAny_newObj_type ?_ (by size_fits))
  exact wpAny_pure ⟨_, rfl, h _ _ (F.push _) (News.push F N _ rfl) (fun q hq => Heap.lt_size (N q hq).1)⟩
end
end Mine
end

section
open PySem PySem.W PySem.Calls PyProof.Rows
set_option maxRecDepth 100000
set_option maxHeartbeats 4000000
set_option linter.unusedVariables false
namespace Mine
theorem gdN {w : World} {b₀ g h : Heap} {hn : Option Value} {dp un : Nat} {gd : Option (List Code)} {outer : List Env} {h₁ : Heap} {fp fp0 : List Addr} {L a : Addr} {m : Str → Option Value} {name : Str} {scope : Scope} {cd : Value} {news : List (Addr × Obj)}
    (G : Gd w b₀ outer h₁ fp0) (B : Below (Aw hn dp outer gd un) b₀ outer g) (F : Fr g L h m) (N : News g L h news) (hfp : ∀ a ∈ fp, ∃ o, (a, o) ∈ news) (hk : scope.kind = .function) : Gd w b₀ (envOf name scope L a cd :: outer) h fp := by
  have P := pushX (env := envOf name scope L a cd) B F rfl hk
  refine ⟨G.X, G.T, P.stays, P.frames, fun a ha => ?_⟩
  obtain ⟨o, ho⟩ := hfp a ha
  have z := N _ ho
  refine ⟨?_, fun env he => ?_⟩
  · cases q : b₀.get? a with
    | none => rfl
    | some o' => have := B.stays a o' q; rw [show g.get? a = none from z.2.2] at this; cases this
  · rcases List.mem_cons.mp he with rfl | he
    · intro e; exact z.2.1 (Option.some.inj e).symm
    · intro e
      have hm : a ∈ frA outer := List.mem_filterMap.mpr ⟨env, he, e⟩
      obtain ⟨o', ho', _⟩ := (B.frames.mem hm).2
      rw [show g.get? a = none from z.2.2] at ho'; cases ho'
/-- what the stream's read does -/
structure RdSpec (w : World) (lf c' cl ls : Addr) (fo oc ocl : Obj) : Prop where
  cons : ∀ {b₀ : Heap} {hn : Option Value} {dp un : Nat} {gd : Option (List Code)} {outer : List Env} {s : Shared} {R : Result → Shared → Prop} {v : Value} {vs : List Value} {n : Nat} {t : Tok}, Gd w b₀ outer s.heap [lf, c', cl, ls] →
    s.heap.get? lf = some fo → s.heap.get? c' = some oc → s.heap.get? cl = some ocl → s.heap.get? ls = some (listOf (v :: vs).toArray n) → vs.length < 1000 → dp + 10 < recursionLimit → un + 100 < cLine →
    (∀ h' tk, Mod [lf, c', cl, ls] s.heap h' → h'.get? lf = some fo → h'.get? c' = some oc → h'.get? cl = some ocl → h'.get? ls = some (listOf vs.toArray (n + 1)) → R (.ok (.ret v)) { s with heap := h', toks := tk }) →
    codeAny (model PR w) (Aw hn dp outer gd un) (.call (.ref lf) ⟨[.int 1 t], []⟩) R s
  nil : ∀ {b₀ : Heap} {hn : Option Value} {dp un : Nat} {gd : Option (List Code)} {outer : List Env} {s : Shared} {R : Result → Shared → Prop} {n : Nat} {t : Tok}, Gd w b₀ outer s.heap [lf, c', cl, ls] →
    s.heap.get? lf = some fo → s.heap.get? c' = some oc → s.heap.get? cl = some ocl → s.heap.get? ls = some (listOf ([] : List Value).toArray n) → dp + 10 < recursionLimit → un + 100 < cLine →
    (∀ h' tk t', Mod [lf, c', cl, ls] s.heap h' → h'.get? lf = some fo → h'.get? c' = some oc → h'.get? cl = some ocl → h'.get? ls = some (listOf ([] : List Value).toArray n) → R (.ok (.ret (.str (Str.ofString "") t'))) { s with heap := h', toks := tk }) →
    codeAny (model PR w) (Aw hn dp outer gd un) (.call (.ref lf) ⟨[.int 1 t], []⟩) R s
theorem four {P : Addr → Prop} {a b c d : Addr} (h1 : P a) (h2 : P b) (h3 : P c) (h4 : P d) : ∀ x ∈ [a, b, c, d], P x := fun x hx => by
  simp only [List.mem_cons, List.not_mem_nil, or_false] at hx
  rcases hx with rfl | rfl | rfl | rfl <;> assumption
/-- a call whose footprint comes back object by object -/
theorem upd_all {g h h' : Heap} {L : Addr} {news : List (Addr × Obj)} {fp : List Addr} (N : News g L h news) (hm : Mod fp h h') (hs : ∀ q ∈ news, q.1 ∈ fp → h'.get? q.1 = some q.2) : News g L h' news :=
  news_mod N hm fun q hq => if e : q.1 ∈ fp then .inr ⟨hs q hq e, _, hq⟩ else .inl ⟨hq, e⟩
section
variable {w : World} {b₀ g : Heap} {hn : Option Value} {dp un : Nat} {gd : Option (List Code)} {outer : List Env} {h₁ : Heap} {fp0 : List Addr} {L a : Addr} {m : Str → Option Value} {name : Str} {scope : Scope} {cd : Value} {s : Shared} {news news' : List (Addr × Obj)} {E : Value → Shared → Prop} {Q : Value → Shared → Prop}
  {lf c' cl ls : Addr} {fo oc ocl : Obj} {v : Value} {vs : List Value} {n : Nat} {t : Tok}
theorem upd_one {g h h' : Heap} {L D : Addr} {o o' : Obj} {fp : List Addr} (N : News g L h news) (U : Upd D o o' news news') (hm : Mod fp h h') (e : h'.get? D = some o') (hs : ∀ q ∈ news, q.1 ≠ D → q.1 ∈ fp → h'.get? q.1 = some q.2) : News g L h' news' := by
  obtain ⟨pre, post, rfl, rfl, ha, hb⟩ := U.split
  refine news_mod N hm fun q hq => ?_
  have hmem : q ∈ pre ∨ q = (D, o') ∨ q ∈ post := by simpa using hq
  have old : (q ∈ pre ∨ q ∈ post) → q ∈ (pre ++ (D, o) :: post) ∧ q.1 ≠ D := fun hq => ⟨by rcases hq with hq | hq <;> simp [hq], by rcases hq with hq | hq; exact ha q hq; exact hb q hq⟩
  have fin : q ∈ (pre ++ (D, o) :: post) ∧ q.1 ≠ D → (q ∈ (pre ++ (D, o) :: post) ∧ q.1 ∉ fp) ∨ (h'.get? q.1 = some q.2 ∧ ∃ o₁, (q.1, o₁) ∈ (pre ++ (D, o) :: post)) := fun ⟨h1, h2⟩ =>
    if e : q.1 ∈ fp then .inr ⟨hs q h1 h2 e, _, h1⟩ else .inl ⟨h1, e⟩
  rcases hmem with hq | rfl | hq
  · exact fin (old (.inl hq))
  · exact .inr ⟨e, o, by simp⟩
  · exact fin (old (.inr hq))
theorem obj_of {h : Heap} {q : Addr × Obj} {a : Addr} {o : Obj} (N : News g L h news) (hq : q ∈ news) (ha : (a, o) ∈ news) (e : q.1 = a) : q.2 = o := Option.some.inj ((N q hq).1.symm.trans (e ▸ (N _ ha).1))
theorem readK_cons (RS : RdSpec w lf c' cl ls fo oc ocl) (G : Gd w b₀ outer h₁ fp0) (B : Below (Aw hn dp outer gd un) b₀ outer g) (F : Fr g L s.heap m) (N : News g L s.heap news) (m1 : (lf, fo) ∈ news) (m2 : (c', oc) ∈ news) (m3 : (cl, ocl) ∈ news)
    (U : Upd ls (listOf (v :: vs).toArray n) (listOf vs.toArray (n + 1)) news news') (hz : vs.length < 1000) (hdp : dp + 11 < recursionLimit) (hun : un + 103 < cLine) (hk : scope.kind = .function)
    (h : ∀ h' tk, Fr g L h' m → News g L h' news' → Q v { s with heap := h', toks := tk }) :
    wpAny (model PR w) ((Aw hn dp outer gd un).deeper (envOf name scope L a cd)) (call (.ref lf) [.int 1 t]) Q E s := by
  have m4 : (ls, listOf (v :: vs).toArray n) ∈ news := by obtain ⟨pre, post, rfl, _⟩ := U.split; simp
  have hfp : ∀ a ∈ [lf, c', cl, ls], ∃ o, (a, o) ∈ news := four ⟨_, m1⟩ ⟨_, m2⟩ ⟨_, m3⟩ ⟨_, m4⟩
  refine wpAny_call (RS.cons (dp := dp + 1) (un := un + 3) (gdN G B F N hfp hk) (N _ m1).1 (N _ m2).1 (N _ m3).1 (N _ m4).1 hz (by omega) (by omega) fun h' tk hm e1 e2 e3 e4 => ?_)
  refine h h' tk (fr_mod F N hfp hm) (upd_one N U hm e4 fun q hq hne hin => ?_)
  simp only [List.mem_cons, List.not_mem_nil, or_false] at hin
  rcases hin with e | e | e | e
  · rw [obj_of N hq m1 e, e]; exact e1
  · rw [obj_of N hq m2 e, e]; exact e2
  · rw [obj_of N hq m3 e, e]; exact e3
  · exact absurd e hne
theorem readK_nil (RS : RdSpec w lf c' cl ls fo oc ocl) (G : Gd w b₀ outer h₁ fp0) (B : Below (Aw hn dp outer gd un) b₀ outer g) (F : Fr g L s.heap m) (N : News g L s.heap news) (m1 : (lf, fo) ∈ news) (m2 : (c', oc) ∈ news) (m3 : (cl, ocl) ∈ news)
    (m4 : (ls, listOf ([] : List Value).toArray n) ∈ news) (hdp : dp + 11 < recursionLimit) (hun : un + 103 < cLine) (hk : scope.kind = .function)
    (h : ∀ h' tk t', Fr g L h' m → News g L h' news → Q (.str (Str.ofString "") t') { s with heap := h', toks := tk }) :
    wpAny (model PR w) ((Aw hn dp outer gd un).deeper (envOf name scope L a cd)) (call (.ref lf) [.int 1 t]) Q E s := by
  have hfp : ∀ a ∈ [lf, c', cl, ls], ∃ o, (a, o) ∈ news := four ⟨_, m1⟩ ⟨_, m2⟩ ⟨_, m3⟩ ⟨_, m4⟩
  refine wpAny_call (RS.nil (dp := dp + 1) (un := un + 3) (gdN G B F N hfp hk) (N _ m1).1 (N _ m2).1 (N _ m3).1 (N _ m4).1 (by omega) (by omega) fun h' tk t' hm e1 e2 e3 e4 => ?_)
  refine h h' tk t' (fr_mod F N hfp hm) (upd_all N hm fun q hq hin => ?_)
  simp only [List.mem_cons, List.not_mem_nil, or_false] at hin
  rcases hin with e | e | e | e
  · rw [obj_of N hq m1 e, e]; exact e1
  · rw [obj_of N hq m2 e, e]; exact e2
  · rw [obj_of N hq m3 e, e]; exact e3
  · rw [obj_of N hq m4 e, e]; exact e4
end
/-- the dict of the stream -/
abbrev rdD (w : World) (u1 u2 u3 u4 u5 : Tok) (tl tx : Tok) (tw : Tok) (pbs lf : Addr) : List DictEntry :=
  [⟨PyData.keyHash w.params (Str.ofString "lineno"), .str (Str.ofString "lineno") u1, .int 1 tl⟩, ⟨PyData.keyHash w.params (Str.ofString "instream"), .str (Str.ofString "instream") u2, .str (Str.ofString "") tx⟩,
   ⟨PyData.keyHash w.params (Str.ofString "whitespace"), .str (Str.ofString "whitespace") u3, .str (Str.ofString "\n\t\r ") tw⟩, ⟨PyData.keyHash w.params (Str.ofString "pushback"), .str (Str.ofString "pushback") u4, .ref pbs⟩,
   ⟨PyData.keyHash w.params (Str.ofString "read"), .str (Str.ofString "read") u5, .ref lf⟩]
local macro_rules | `(tactic| walk_at "call ref") => `(tactic| (k_here; k_dflt (first
  | (refine readK_cons (by assumption) (by assumption) (by assumption) (by k_asm) (by k_asm) (by k_mem) (by k_mem) (by k_mem) (by k_upd) (by assumption) (by omega) (by omega) rfl ?_; intro h' tk' F' N')
  | (refine readK_nil (by assumption) (by assumption) (by assumption) (by k_asm) (by k_asm) (by k_mem) (by k_mem) (by k_mem) (by k_mem) (by omega) (by omega) rfl ?_; intro h' tk' t' F' N'))))
local macro_rules | `(tactic| walk_at "callWith ref") => `(tactic| (k_here; k_dflt (refine callWith_F (FnAt.of (by k_asm) (by k_mem)) ?_)))
local macro_rules | `(tactic| walk_at "And") => `(tactic| ((with_reducible show FnAt _ _ ∧ _); refine ⟨FnAt.of (by k_asm) (by k_mem), ?_⟩; try dsimp only [List.nil_append, List.cons_append]))
theorem nl_is (c : Nat) : (ofL [c] == Str.ofString "\n") = decide (c = 10) := by
  have e : Str.ofString "\n" = ofL [10] := by decide +kernel
  rw [e]
  by_cases h : c = 10
  · subst h; rfl
  · rw [decide_eq_false h]
    refine beq_eq_false_iff_ne.mpr fun q => h ?_
    have := congrArg (fun z : Str => z.cps.toList) q
    simpa [ofL] using this
theorem rc_cons {w : World} {b₀ : Heap} {hn : Option Value} {dp un : Nat} {gd : Option (List Code)} {outer : List Env} {s : Shared} {R : Result → Shared → Prop}
    {lx dx st ds lf c' cl ls pb pbs : Addr} {oc ocl : Obj} {kc : Value} {kd : Option Addr} {fd : FuncData} {ksl : Array (Option Value)} {t1 t2 t3 t4 u1 u2 u3 u4 u5 tl tx tw : Tok} {ln : Int} {lt : Tok} {wt : Tok} {vs : List Value} {n : Nat} {c : Nat} {u : Tok}
    (RS : RdSpec w lf c' cl ls ⟨kc, kd, .func fd, ksl⟩ oc ocl)
    (G : Gd w b₀ outer s.heap [lx, dx, st, ds, lf, c', cl, ls])
    (h1 : s.heap.get? lx = some (instObj 69 dx)) (h2 : s.heap.get? dx = some (dictOf (lexD w t1 t2 t3 t4 ln lt (.ref st) wt pb) 4)) (h3 : s.heap.get? st = some (instObj 69 ds)) (h4 : s.heap.get? ds = some (dictOf (rdD w u1 u2 u3 u4 u5 tl tx tw pbs lf) 5))
    (h5 : s.heap.get? lf = some ⟨kc, kd, .func fd, ksl⟩) (h6 : s.heap.get? c' = some oc) (h7 : s.heap.get? cl = some ocl) (h8 : s.heap.get? ls = some (listOf (Value.str (ofL [c]) u :: vs).toArray n))
    (o1 : @LT.lt Nat _ cl ls) (o2 : @LT.lt Nat _ ls ds) (o3 : @LT.lt Nat _ ds st) (o4 : @LT.lt Nat _ st c') (o5 : @LT.lt Nat _ c' lf) (o6 : @LT.lt Nat _ lf dx) (o7 : @LT.lt Nat _ dx lx)
    (hln : 0 ≤ ln ∧ ln < 1000000) (hz : vs.length < 1000) (hdp : dp + 30 < recursionLimit) (hun : un + 200 < cLine)
    (ret : ∀ h' tk lt', Mod [lx, dx, st, ds, lf, c', cl, ls] s.heap h' → h'.get? lx = some (instObj 69 dx) → h'.get? dx = some (dictOf (lexD w t1 t2 t3 t4 (if c = 10 then ln + 1 else ln) lt' (.ref st) wt pb) 4) → h'.get? st = some (instObj 69 ds) → h'.get? ds = some (dictOf (rdD w u1 u2 u3 u4 u5 tl tx tw pbs lf) 5) →
      h'.get? lf = some ⟨kc, kd, .func fd, ksl⟩ → h'.get? c' = some oc → h'.get? cl = some ocl → h'.get? ls = some (listOf vs.toArray (n + 1)) → R (.ok (.ret (.str (ofL [c]) u))) { s with heap := h', toks := tk }) :
    codeAny (model PR w) (Aw hn dp outer gd un) (.call (.ref 52) ⟨[.ref lx], []⟩) R s := by
  refine' enter (binds := [(S "self", .ref lx)]) (fps := [(lx, instObj 69 dx), (dx, dictOf (lexD w t1 t2 t3 t4 ln lt (.ref st) wt pb) 4), (st, instObj 69 ds), (ds, dictOf (rdD w u1 u2 u3 u4 u5 tl tx tw pbs lf) 5), (lf, ⟨kc, kd, .func fd, ksl⟩), (c', oc), (cl, ocl), (ls, listOf (Value.str (ofL [c]) u :: vs).toArray n)])
    (Φ := fun v' h' => ∃ lt', v' = .str (ofL [c]) u ∧ h'.get? lx = some (instObj 69 dx) ∧ h'.get? dx = some (dictOf (lexD w t1 t2 t3 t4 (if c = 10 then ln + 1 else ln) lt' (.ref st) wt pb) 4) ∧ h'.get? st = some (instObj 69 ds) ∧ h'.get? ds = some (dictOf (rdD w u1 u2 u3 u4 u5 tl tx tw pbs lf) 5) ∧
      h'.get? lf = some ⟨kc, kd, .func fd, ksl⟩ ∧ h'.get? c' = some oc ∧ h'.get? cl = some ocl ∧ h'.get? ls = some (listOf vs.toArray (n + 1))) G ?hfp ?ho ?hcd ?hr ?hb ?hl ?body ?ret ?c1 ?c2 ?c3 ?c4
  case ho => k_dflt k_is
  case hcd => k_dflt k_is
  case hr => omega
  case hb => exact BindsTo.of_eq rfl
  case hl => exact locs rfl
  case c1 => rfl
  case c2 => rfl
  case c3 => rfl
  case c4 => decide
  · intro q hq; simp only [List.mem_cons, List.not_mem_nil, or_false] at hq; rcases hq with rfl | rfl | rfl | rfl | rfl | rfl | rfl | rfl <;> assumption
  · intro p loose mean mg mb g L' h₁ F N B X T l1
    k_lt l1
    clear ret
    try dsimp only
    k_steps
    · have hc : c = 10 := by
        have q : (ofL [c] == Str.ofString "\n") = true := by assumption
        rw [nl_is] at q; simpa using q
      rw [if_pos hc]
      exact Ends.of (by assumption) ⟨_, rfl, News.get (by assumption) (by k_mem), News.get (by assumption) (by k_mem), News.get (by assumption) (by k_mem), News.get (by assumption) (by k_mem), News.get (by assumption) (by k_mem), News.get (by assumption) (by k_mem), News.get (by assumption) (by k_mem), News.get (by assumption) (by k_mem)⟩
    · have hc : c ≠ 10 := by
        have q : (ofL [c] == Str.ofString "\n") = false := by assumption
        rw [nl_is] at q; simpa using q
      rw [if_neg hc]
      exact Ends.of (by assumption) ⟨_, rfl, News.get (by assumption) (by k_mem), News.get (by assumption) (by k_mem), News.get (by assumption) (by k_mem), News.get (by assumption) (by k_mem), News.get (by assumption) (by k_mem), News.get (by assumption) (by k_mem), News.get (by assumption) (by k_mem), News.get (by assumption) (by k_mem)⟩
  · rintro v' h' tk hm ⟨lt', rfl, e1, e2, e3, e4, e5, e6, e7, e8⟩
    exact ret h' tk lt' hm e1 e2 e3 e4 e5 e6 e7 e8
theorem rc_nil {w : World} {b₀ : Heap} {hn : Option Value} {dp un : Nat} {gd : Option (List Code)} {outer : List Env} {s : Shared} {R : Result → Shared → Prop}
    {lx dx st ds lf c' cl ls pb pbs : Addr} {oc ocl : Obj} {kc : Value} {kd : Option Addr} {fd : FuncData} {ksl : Array (Option Value)} {t1 t2 t3 t4 u1 u2 u3 u4 u5 tl tx tw : Tok} {ln : Int} {lt : Tok} {wt : Tok} {n : Nat}
    (RS : RdSpec w lf c' cl ls ⟨kc, kd, .func fd, ksl⟩ oc ocl)
    (G : Gd w b₀ outer s.heap [lx, dx, st, ds, lf, c', cl, ls])
    (h1 : s.heap.get? lx = some (instObj 69 dx)) (h2 : s.heap.get? dx = some (dictOf (lexD w t1 t2 t3 t4 ln lt (.ref st) wt pb) 4)) (h3 : s.heap.get? st = some (instObj 69 ds)) (h4 : s.heap.get? ds = some (dictOf (rdD w u1 u2 u3 u4 u5 tl tx tw pbs lf) 5))
    (h5 : s.heap.get? lf = some ⟨kc, kd, .func fd, ksl⟩) (h6 : s.heap.get? c' = some oc) (h7 : s.heap.get? cl = some ocl) (h8 : s.heap.get? ls = some (listOf ([] : List Value).toArray n))
    (o1 : @LT.lt Nat _ cl ls) (o2 : @LT.lt Nat _ ls ds) (o3 : @LT.lt Nat _ ds st) (o4 : @LT.lt Nat _ st c') (o5 : @LT.lt Nat _ c' lf) (o6 : @LT.lt Nat _ lf dx) (o7 : @LT.lt Nat _ dx lx)
    (hln : 0 ≤ ln ∧ ln < 1000000) (hdp : dp + 30 < recursionLimit) (hun : un + 200 < cLine)
    (ret : ∀ h' tk lt', Mod [lx, dx, st, ds, lf, c', cl, ls] s.heap h' → h'.get? lx = some (instObj 69 dx) → h'.get? dx = some (dictOf (lexD w t1 t2 t3 t4 ln lt (.ref st) wt pb) 4) → h'.get? st = some (instObj 69 ds) → h'.get? ds = some (dictOf (rdD w u1 u2 u3 u4 u5 tl tx tw pbs lf) 5) →
      h'.get? lf = some ⟨kc, kd, .func fd, ksl⟩ → h'.get? c' = some oc → h'.get? cl = some ocl → h'.get? ls = some (listOf ([] : List Value).toArray n) → R (.ok (.ret (.str (Str.ofString "") lt'))) { s with heap := h', toks := tk }) :
    codeAny (model PR w) (Aw hn dp outer gd un) (.call (.ref 52) ⟨[.ref lx], []⟩) R s := by
  refine' enter (binds := [(S "self", .ref lx)]) (fps := [(lx, instObj 69 dx), (dx, dictOf (lexD w t1 t2 t3 t4 ln lt (.ref st) wt pb) 4), (st, instObj 69 ds), (ds, dictOf (rdD w u1 u2 u3 u4 u5 tl tx tw pbs lf) 5), (lf, ⟨kc, kd, .func fd, ksl⟩), (c', oc), (cl, ocl), (ls, listOf ([] : List Value).toArray n)])
    (Φ := fun v' h' => ∃ lt', v' = .str (Str.ofString "") lt' ∧ h'.get? lx = some (instObj 69 dx) ∧ h'.get? dx = some (dictOf (lexD w t1 t2 t3 t4 ln lt (.ref st) wt pb) 4) ∧ h'.get? st = some (instObj 69 ds) ∧ h'.get? ds = some (dictOf (rdD w u1 u2 u3 u4 u5 tl tx tw pbs lf) 5) ∧
      h'.get? lf = some ⟨kc, kd, .func fd, ksl⟩ ∧ h'.get? c' = some oc ∧ h'.get? cl = some ocl ∧ h'.get? ls = some (listOf ([] : List Value).toArray n)) G ?hfp ?ho ?hcd ?hr ?hb ?hl ?body ?ret ?c1 ?c2 ?c3 ?c4
  case ho => k_dflt k_is
  case hcd => k_dflt k_is
  case hr => omega
  case hb => exact BindsTo.of_eq rfl
  case hl => exact locs rfl
  case c1 => rfl
  case c2 => rfl
  case c3 => rfl
  case c4 => decide
  · intro q hq; simp only [List.mem_cons, List.not_mem_nil, or_false] at hq; rcases hq with rfl | rfl | rfl | rfl | rfl | rfl | rfl | rfl <;> assumption
  · intro p loose mean mg mb g L' h₁ F N B X T l1
    k_lt l1
    clear ret
    try dsimp only
    k_steps
    exact Ends.of (by assumption) ⟨_, rfl, News.get (by assumption) (by k_mem), News.get (by assumption) (by k_mem), News.get (by assumption) (by k_mem), News.get (by assumption) (by k_mem), News.get (by assumption) (by k_mem), News.get (by assumption) (by k_mem), News.get (by assumption) (by k_mem), News.get (by assumption) (by k_mem)⟩
  · rintro v' h' tk hm ⟨lt', rfl, e1, e2, e3, e4, e5, e6, e7, e8⟩
    exact ret h' tk lt' hm e1 e2 e3 e4 e5 e6 e7 e8
end Mine
end

section
open PySem PySem.W PySem.Calls PyProof.Rows
set_option maxRecDepth 100000
set_option maxHeartbeats 4000000
set_option linter.unusedVariables false
namespace Mine
theorem eight {P : Addr → Prop} {a b c d e f g h : Addr} (h1 : P a) (h2 : P b) (h3 : P c) (h4 : P d) (h5 : P e) (h6 : P f) (h7 : P g) (h8 : P h) : ∀ x ∈ [a, b, c, d, e, f, g, h], P x := fun x hx => by
  simp only [List.mem_cons, List.not_mem_nil, or_false] at hx
  rcases hx with rfl | rfl | rfl | rfl | rfl | rfl | rfl | rfl <;> assumption
set_option genInjectivity false in
set_option genSizeOfSpec false in
/-- a lexer upon a stream: its objects -/
structure LX where
  lx : Addr
  dx : Addr
  st : Addr
  ds : Addr
  lf : Addr
  c' : Addr
  cl : Addr
  ls : Addr
  pb : Addr
  pbs : Addr
  oc : Obj
  ocl : Obj
  kc : Value
  kd : Option Addr
  fd : FuncData
  ksl : Array (Option Value)
  t1 : Tok
  t2 : Tok
  t3 : Tok
  t4 : Tok
  wt : Tok
  u1 : Tok
  u2 : Tok
  u3 : Tok
  u4 : Tok
  u5 : Tok
  tl : Tok
  tx : Tok
  tw : Tok
abbrev LX.fo (P : LX) : Obj := ⟨P.kc, P.kd, .func P.fd, P.ksl⟩
structure LXok (w : World) (P : LX) : Prop where
  rd : RdSpec w P.lf P.c' P.cl P.ls ⟨P.kc, P.kd, .func P.fd, P.ksl⟩ P.oc P.ocl
  o1 : @LT.lt Nat _ P.cl P.ls
  o2 : @LT.lt Nat _ P.ls P.ds
  o3 : @LT.lt Nat _ P.ds P.st
  o4 : @LT.lt Nat _ P.st P.c'
  o5 : @LT.lt Nat _ P.c' P.lf
  o6 : @LT.lt Nat _ P.lf P.dx
  o7 : @LT.lt Nat _ P.dx P.lx
  o8 : @LT.lt Nat _ P.lx P.pb
abbrev lexL (w : World) (P : LX) (ln : Int) (lt : Tok) (vs : List Value) (n : Nat) (ps : List Value) (np : Nat) : List (Addr × Obj) :=
  [(P.lx, instObj 69 P.dx), (P.dx, dictOf (lexD w P.t1 P.t2 P.t3 P.t4 ln lt (.ref P.st) P.wt P.pb) 4), (P.st, instObj 69 P.ds), (P.ds, dictOf (rdD w P.u1 P.u2 P.u3 P.u4 P.u5 P.tl P.tx P.tw P.pbs P.lf) 5), (P.lf, ⟨P.kc, P.kd, .func P.fd, P.ksl⟩), (P.c', P.oc), (P.cl, P.ocl), (P.ls, listOf vs.toArray n), (P.pb, listOf ps.toArray np)]
abbrev lexA (P : LX) : List Addr := [P.lx, P.dx, P.st, P.ds, P.lf, P.c', P.cl, P.ls]
abbrev gtL (w : World) (P : LX) (it q : Addr) (ts : Tok) (ln : Int) (lt : Tok) (vs : List Value) (n np : Nat) : List (Addr × Obj) := (it, ciObj q ts) :: (q, methodObj (.ref 52) (.ref P.lx)) :: lexL w P ln lt vs n [] np
section
variable {w : World} {b₀ g : Heap} {hn : Option Value} {dp un dp' un' : Nat} {gd : Option (List Code)} {outer : List Env} {h₁ : Heap} {fp0 : List Addr} {L a : Addr} {m : Str → Option Value} {name : Str} {scope : Scope} {cd : Value} {s : Shared} {R : Result → Shared → Prop} {P : LX}
   {ln : Int} {lt : Tok} {vs : List Value} {n np : Nat} {c : Nat} {u : Tok} {it q : Addr} {ts : Tok}
theorem gt_back {h h' : Heap} {ln' : Int} {lt' : Tok} {vs' : List Value} {n' : Nat} (K : LXok w P) (N : News g L h (gtL w P it q ts ln lt vs n np)) (hq : @LT.lt Nat _ P.pb q) (hi : @LT.lt Nat _ q it) (hm : Mod (lexA P) h h')
    (e1 : h'.get? P.lx = some (instObj 69 P.dx)) (e2 : h'.get? P.dx = some (dictOf (lexD w P.t1 P.t2 P.t3 P.t4 ln' lt' (.ref P.st) P.wt P.pb) 4)) (e3 : h'.get? P.st = some (instObj 69 P.ds)) (e4 : h'.get? P.ds = some (dictOf (rdD w P.u1 P.u2 P.u3 P.u4 P.u5 P.tl P.tx P.tw P.pbs P.lf) 5))
    (e5 : h'.get? P.lf = some ⟨P.kc, P.kd, .func P.fd, P.ksl⟩) (e6 : h'.get? P.c' = some P.oc) (e7 : h'.get? P.cl = some P.ocl) (e8 : h'.get? P.ls = some (listOf vs'.toArray n')) : News g L h' (gtL w P it q ts ln' lt' vs' n' np) := by
  obtain ⟨_, o1, o2, o3, o4, o5, o6, o7, o8⟩ := K
  have q6 := Nat.lt_trans o6 o7
  have q5 := Nat.lt_trans o5 q6
  have q4 := Nat.lt_trans o4 q5
  have q3 := Nat.lt_trans o3 q4
  have q2 := Nat.lt_trans o2 q3
  have q1 := Nat.lt_trans o1 q2
  have ne : ∀ x : Addr, @LT.lt Nat _ P.lx x → x ∉ lexA P := fun x hx hm => by
    simp only [lexA, List.mem_cons, List.not_mem_nil, or_false] at hm
    rcases hm with e | e | e | e | e | e | e | e <;> (rw [e] at hx)
    · exact Nat.lt_irrefl _ hx
    · exact Nat.lt_asymm hx o7
    · exact Nat.lt_asymm hx q4
    · exact Nat.lt_asymm hx q3
    · exact Nat.lt_asymm hx q6
    · exact Nat.lt_asymm hx q5
    · exact Nat.lt_asymm hx q1
    · exact Nat.lt_asymm hx q2
  intro p hp
  simp only [List.mem_cons, List.not_mem_nil, or_false] at hp
  rcases hp with rfl | rfl | rfl | rfl | rfl | rfl | rfl | rfl | rfl | rfl | rfl
  · have z := N (it, ciObj q ts) (by simp); exact ⟨hm _ _ z.1 (ne _ (by omega)), z.2⟩
  · have z := N (q, methodObj (.ref 52) (.ref P.lx)) (by simp); exact ⟨hm _ _ z.1 (ne _ (by omega)), z.2⟩
  · exact ⟨e1, (N _ (.tail _ (.tail _ (.head _)))).2⟩
  · exact ⟨e2, (N _ (.tail _ (.tail _ (.tail _ (.head _))))).2⟩
  · exact ⟨e3, (N _ (.tail _ (.tail _ (.tail _ (.tail _ (.head _)))))).2⟩
  · exact ⟨e4, (N _ (.tail _ (.tail _ (.tail _ (.tail _ (.tail _ (.head _))))))).2⟩
  · exact ⟨e5, (N _ (.tail _ (.tail _ (.tail _ (.tail _ (.tail _ (.tail _ (.head _)))))))).2⟩
  · exact ⟨e6, (N _ (.tail _ (.tail _ (.tail _ (.tail _ (.tail _ (.tail _ (.tail _ (.head _))))))))).2⟩
  · exact ⟨e7, (N _ (.tail _ (.tail _ (.tail _ (.tail _ (.tail _ (.tail _ (.tail _ (.tail _ (.head _)))))))))).2⟩
  · exact ⟨e8, (N _ (.tail _ (.tail _ (.tail _ (.tail _ (.tail _ (.tail _ (.tail _ (.tail _ (.tail _ (.head _))))))))))).2⟩
  · have z := N (P.pb, listOf ([] : List Value).toArray np) (by simp); exact ⟨hm _ _ z.1 (ne _ o8), z.2⟩
theorem gt_fp (N : News g L s.heap (gtL w P it q ts ln lt vs n np)) : ∀ a ∈ lexA P, ∃ o, (a, o) ∈ gtL w P it q ts ln lt vs n np :=
  eight ⟨_, .tail _ (.tail _ (.head _))⟩ ⟨_, .tail _ (.tail _ (.tail _ (.head _)))⟩ ⟨_, .tail _ (.tail _ (.tail _ (.tail _ (.head _))))⟩ ⟨_, .tail _ (.tail _ (.tail _ (.tail _ (.tail _ (.head _)))))⟩ ⟨_, .tail _ (.tail _ (.tail _ (.tail _ (.tail _ (.tail _ (.head _))))))⟩
    ⟨_, .tail _ (.tail _ (.tail _ (.tail _ (.tail _ (.tail _ (.tail _ (.head _)))))))⟩ ⟨_, .tail _ (.tail _ (.tail _ (.tail _ (.tail _ (.tail _ (.tail _ (.tail _ (.head _))))))))⟩ ⟨_, .tail _ (.tail _ (.tail _ (.tail _ (.tail _ (.tail _ (.tail _ (.tail _ (.tail _ (.head _)))))))))⟩
theorem rcP_cons (K : LXok w P) (G : Gd w b₀ outer h₁ fp0) (B : Below (Aw hn dp outer gd un) b₀ outer g) (F : Fr g L s.heap m) (N : News g L s.heap (gtL w P it q ts ln lt (.str (ofL [c]) u :: vs) n np)) (hq : @LT.lt Nat _ P.pb q) (hi : @LT.lt Nat _ q it)
    (hln : 0 ≤ ln ∧ ln < 1000000) (hz : vs.length < 1000) (hdp : dp' + 30 < recursionLimit) (hun : un' + 200 < cLine) (hk : scope.kind = .function)
    (h : ∀ h' tk lt', Fr g L h' m → News g L h' (gtL w P it q ts (if c = 10 then ln + 1 else ln) lt' vs (n + 1) np) → R (.ok (.ret (.str (ofL [c]) u))) { s with heap := h', toks := tk }) :
    codeAny (model PR w) (Aw hn dp' (envOf name scope L a cd :: outer) gd un') (.call (.ref 52) ⟨[.ref P.lx], []⟩) R s := by
  have K' := K
  obtain ⟨RS, o1, o2, o3, o4, o5, o6, o7, o8⟩ := K
  refine rc_cons (gd := gd) RS (gdN G B F N (gt_fp N) hk) (N _ (.tail _ (.tail _ (.head _)))).1 (N _ (.tail _ (.tail _ (.tail _ (.head _))))).1 (N _ (.tail _ (.tail _ (.tail _ (.tail _ (.head _)))))).1 (N _ (.tail _ (.tail _ (.tail _ (.tail _ (.tail _ (.head _))))))).1
    (N _ (.tail _ (.tail _ (.tail _ (.tail _ (.tail _ (.tail _ (.head _)))))))).1 (N _ (.tail _ (.tail _ (.tail _ (.tail _ (.tail _ (.tail _ (.tail _ (.head _))))))))).1 (N _ (.tail _ (.tail _ (.tail _ (.tail _ (.tail _ (.tail _ (.tail _ (.tail _ (.head _)))))))))).1 (N _ (.tail _ (.tail _ (.tail _ (.tail _ (.tail _ (.tail _ (.tail _ (.tail _ (.tail _ (.head _))))))))))).1
    o1 o2 o3 o4 o5 o6 o7 hln hz hdp hun fun h' tk lt' hm e1 e2 e3 e4 e5 e6 e7 e8 => ?_
  exact h h' tk lt' (fr_mod F N (gt_fp N) hm) (gt_back K' N hq hi hm e1 e2 e3 e4 e5 e6 e7 e8)
theorem rcP_nil (K : LXok w P) (G : Gd w b₀ outer h₁ fp0) (B : Below (Aw hn dp outer gd un) b₀ outer g) (F : Fr g L s.heap m) (N : News g L s.heap (gtL w P it q ts ln lt [] n np)) (hq : @LT.lt Nat _ P.pb q) (hi : @LT.lt Nat _ q it)
    (hln : 0 ≤ ln ∧ ln < 1000000) (hdp : dp' + 30 < recursionLimit) (hun : un' + 200 < cLine) (hk : scope.kind = .function)
    (h : ∀ h' tk t', Fr g L h' m → News g L h' (gtL w P it q ts ln lt [] n np) → R (.ok (.ret (.str (Str.ofString "") t'))) { s with heap := h', toks := tk }) :
    codeAny (model PR w) (Aw hn dp' (envOf name scope L a cd :: outer) gd un') (.call (.ref 52) ⟨[.ref P.lx], []⟩) R s := by
  have K' := K
  obtain ⟨RS, o1, o2, o3, o4, o5, o6, o7, o8⟩ := K
  refine rc_nil (gd := gd) RS (gdN G B F N (gt_fp N) hk) (N _ (.tail _ (.tail _ (.head _)))).1 (N _ (.tail _ (.tail _ (.tail _ (.head _))))).1 (N _ (.tail _ (.tail _ (.tail _ (.tail _ (.head _)))))).1 (N _ (.tail _ (.tail _ (.tail _ (.tail _ (.tail _ (.head _))))))).1
    (N _ (.tail _ (.tail _ (.tail _ (.tail _ (.tail _ (.tail _ (.head _)))))))).1 (N _ (.tail _ (.tail _ (.tail _ (.tail _ (.tail _ (.tail _ (.tail _ (.head _))))))))).1 (N _ (.tail _ (.tail _ (.tail _ (.tail _ (.tail _ (.tail _ (.tail _ (.tail _ (.head _)))))))))).1 (N _ (.tail _ (.tail _ (.tail _ (.tail _ (.tail _ (.tail _ (.tail _ (.tail _ (.tail _ (.head _))))))))))).1
    o1 o2 o3 o4 o5 o6 o7 hln hdp hun fun h' tk t' hm e1 e2 e3 e4 e5 e6 e7 e8 => ?_
  exact h h' tk t' (fr_mod F N (gt_fp N) hm) (gt_back K' N hq hi hm e1 e2 e3 e4 e5 e6 e7 e8)
theorem fn52 (X : (hd.heap_39 w.params).In g) : ∃ of fd, g.get? 52 = some of ∧ of.data = .func fd := ⟨_, _, X 52 _ (by k_dflt k_is), rfl⟩
section
variable {E : Value → Shared → Prop}
theorem rcK_cons {Q : Value → Shared → Prop} (K : LXok w P) (G : Gd w b₀ outer h₁ fp0) (B : Below (Aw hn dp outer gd un) b₀ outer g) (F : Fr g L s.heap m) (N : News g L s.heap (gtL w P it q ts ln lt (.str (ofL [c]) u :: vs) n np)) (hq : @LT.lt Nat _ P.pb q) (hi : @LT.lt Nat _ q it)
    (hln : 0 ≤ ln ∧ ln < 1000000) (hz : vs.length < 1000) (hdp : dp + 40 < recursionLimit) (hun : un + 220 < cLine) (hk : scope.kind = .function)
    (h : ∀ h' tk lt', Fr g L h' m → News g L h' (gtL w P it q ts (if c = 10 then ln + 1 else ln) lt' vs (n + 1) np) → Q (.str (ofL [c]) u) { s with heap := h', toks := tk }) :
    wpAny (model PR w) ((Aw hn dp outer gd un).deeper (envOf name scope L a cd)) (call (.ref 52) [.ref P.lx]) Q E s :=
  wpAny_call (rcP_cons (dp' := dp + 1) (un' := un + 3) K G B F N hq hi hln hz (by omega) (by omega) hk h)
theorem nextK_cons {Q : Option Value → Shared → Prop} (K : LXok w P) (X : (hd.heap_39 w.params).In g) (G : Gd w b₀ outer h₁ fp0) (B : Below (Aw none dp outer gd un) b₀ outer g) (F : Fr g L s.heap m) (N : News g L s.heap (gtL w P it q ts ln lt (.str (ofL [c]) u :: vs) n np)) (hq : @LT.lt Nat _ P.pb q) (hi : @LT.lt Nat _ q it)
    (hln : 0 ≤ ln ∧ ln < 1000000) (hz : vs.length < 1000) (hdp : dp + 40 < recursionLimit) (hun : un + 220 < cLine) (hk : scope.kind = .function)
    (h : ∀ h' tk lt', Fr g L h' m → News g L h' (gtL w P it q ts (if c = 10 then ln + 1 else ln) lt' vs (n + 1) np) → Q (some (.str (ofL [c]) u)) { s with heap := h', toks := tk }) :
    wpAny (model PR w) ((Aw none dp outer gd un).deeper (envOf name scope L a cd)) (pyNext (.ref it)) Q E s := by
  obtain ⟨of, fd, h52, hfd⟩ := fn52 X
  refine ci_next rfl (N _ (.head _)).1 (N _ (.tail _ (.head _))).1 (F.keep _ _ h52) hfd (rcP_cons (dp' := dp + 1) (un' := un + 4) K G B F N hq hi hln hz (by omega) (by omega) hk fun h' tk lt' F' N' => ?_)
  exact ⟨[c], u, rfl, (N' _ (.head _)).1, (N' _ (.tail _ (.head _))).1, F'.keep _ _ h52, .inl ⟨by simp, h h' tk lt' F' N'⟩⟩
theorem lex_le {ps : List Value} (K : LXok w P) : ∀ p ∈ lexL w P ln lt vs n ps np, @LE.le Nat _ p.1 P.pb := by
  obtain ⟨_, o1, o2, o3, o4, o5, o6, o7, o8⟩ := K
  have q7 := Nat.lt_trans o7 o8
  have q6 := Nat.lt_trans o6 q7
  have q5 := Nat.lt_trans o5 q6
  have q4 := Nat.lt_trans o4 q5
  have q3 := Nat.lt_trans o3 q4
  have q2 := Nat.lt_trans o2 q3
  have q1 := Nat.lt_trans o1 q2
  intro p hp
  simp only [List.mem_cons, List.not_mem_nil, or_false] at hp
  rcases hp with rfl | rfl | rfl | rfl | rfl | rfl | rfl | rfl | rfl
  · exact Nat.le_of_lt o8
  · exact Nat.le_of_lt q7
  · exact Nat.le_of_lt q4
  · exact Nat.le_of_lt q3
  · exact Nat.le_of_lt q6
  · exact Nat.le_of_lt q5
  · exact Nat.le_of_lt q1
  · exact Nat.le_of_lt q2
  · exact Nat.le_refl _
theorem nextK_nil {Q : Option Value → Shared → Prop} (K : LXok w P) (X : (hd.heap_39 w.params).In g) (G : Gd w b₀ outer h₁ fp0) (B : Below (Aw none dp outer gd un) b₀ outer g) (F : Fr g L s.heap m) (N : News g L s.heap (gtL w P it q ts ln lt [] n np)) (hq : @LT.lt Nat _ P.pb q) (hi : @LT.lt Nat _ q it)
    (hln : 0 ≤ ln ∧ ln < 1000000) (hdp : dp + 40 < recursionLimit) (hun : un + 220 < cLine) (hk : scope.kind = .function)
    (h : ∀ h' tk, Fr g L h' m → News g L h' (lexL w P ln lt [] n [] np) → Q none { s with heap := h', toks := tk }) :
    wpAny (model PR w) ((Aw none dp outer gd un).deeper (envOf name scope L a cd)) (pyNext (.ref it)) Q E s := by
  obtain ⟨of, fd, h52, hfd⟩ := fn52 X
  refine ci_next rfl (N _ (.head _)).1 (N _ (.tail _ (.head _))).1 (F.keep _ _ h52) hfd (rcP_nil (dp' := dp + 1) (un' := un + 4) K G B F N hq hi hln (by omega) (by omega) hk fun h' tk t' F' N' => ?_)
  refine ⟨[], t', rfl, (N' _ (.head _)).1, (N' _ (.tail _ (.head _))).1, F'.keep _ _ h52, .inr ⟨rfl, fun h₂ he => ?_⟩⟩
  have zi := N' _ (.head _)
  have K' := K
  refine h h₂ tk (Fr.sameBut F' he (fun e => zi.2.1 e.symm) zi.2.2) fun p hp => ?_
  have z := N' p (.tail _ (.tail _ hp))
  refine ⟨he _ _ (fun e => ?_) z.1, z.2⟩
  have e' : @Eq Nat p.1 it := e
  exact absurd e' (Nat.ne_of_lt (Nat.lt_of_le_of_lt (lex_le K' p hp) (Nat.lt_trans hq hi)))
end
end
end Mine
end

section
open PySem PySem.W PySem.Calls PyProof.Rows
set_option maxRecDepth 100000
set_option maxHeartbeats 4000000
set_option linter.unusedVariables false
namespace Mine
def isWs (c : Nat) : Bool := c == 10 || c == 9 || c == 13 || c == 32
/-- a bare word: the text, the rest of the word, the text behind it -/
inductive InB : List Nat → List Nat → List Nat → Prop
  | stop {c : Nat} {r : List Nat} : isWs c = true → InB (c :: r) [] r
  | esc {c : Nat} {r t r' : List Nat} : InB r t r' → InB (92 :: c :: r) (c :: t) r'
  | plain {c : Nat} {r t r' : List Nat} : isWs c = false → c ≠ 92 → c < 128 → InB r t r' → InB (c :: r) (c :: t) r'
/-- a quoted word -/
inductive InQ : List Nat → List Nat → List Nat → Prop
  | stop {r : List Nat} : InQ (34 :: r) [] r
  | esc {c : Nat} {r t r' : List Nat} : InQ r t r' → InQ (92 :: c :: r) (c :: t) r'
  | plain {c : Nat} {r t r' : List Nat} : c ≠ 34 → c ≠ 92 → InQ r t r' → InQ (c :: r) (c :: t) r'
inductive TokR : List Nat → List Nat → List Nat → Prop
  | fin : TokR [] [] []
  | skip {c : Nat} {r t r' : List Nat} : isWs c = true → TokR r t r' → TokR (c :: r) t r'
  | quo {r t r' : List Nat} : InQ r t r' → TokR (34 :: r) t r'
  | esc {c : Nat} {r t r' : List Nat} : InB r t r' → TokR (92 :: c :: r) (c :: t) r'
  | plain {c : Nat} {r t r' : List Nat} : isWs c = false → c ≠ 34 → c ≠ 92 → c < 128 → InB r t r' → TokR (c :: r) (c :: t) r'
def nls (l : List Nat) : Nat := l.count 10
theorem nls_cons (c : Nat) (l : List Nat) (ln : Int) : (if c = 10 then ln + 1 else ln) + (nls l : Int) = ln + (nls (c :: l) : Int) := by
  unfold nls
  rw [List.count_cons]
  by_cases h : c = 10
  · subst h; simp; omega
  · simp [h]
section
variable {w : World} {A : Around} {s : Shared} {E : Value → Shared → Prop} {c : Nat} {u wt : Tok}
theorem ws_occ {c : Nat} (h : c < 128) : (!(Builtin.Str.occurrences (Str.ofString "\n\t\r ") (ofL [c]) 0 (Str.ofString "\n\t\r ").length 1).isEmpty) = isWs c := by
  have key : ∀ a : Fin 128, (!(Builtin.Str.occurrences (Str.ofString "\n\t\r ") (ofL [a.val]) 0 (Str.ofString "\n\t\r ").length 1).isEmpty) = isWs a.val := by decide +kernel
  exact key ⟨c, h⟩
theorem ws_small (h : isWs c = true) : c < 128 := by unfold isWs at h; simp at h; omega
theorem inWs_t {Q : Value → Shared → Prop} (h : isWs c = true) (hQ : Q (.bool true) s) : wpAny (model PR w) A (compareOp .In (.str (ofL [c]) u) (.str (Str.ofString "\n\t\r ") wt)) Q E s :=
  in_str (by rw [ws_occ (ws_small h), h]; exact hQ)
theorem inWs_f {Q : Value → Shared → Prop} (h : isWs c = false) (hc : c < 128) (hQ : Q (.bool false) s) : wpAny (model PR w) A (compareOp .In (.str (ofL [c]) u) (.str (Str.ofString "\n\t\r ") wt)) Q E s :=
  in_str (by rw [ws_occ hc, h]; exact hQ)
theorem eqq {Q : Value → Shared → Prop} (b : Bool) (h : decide (c = 34) = b) (hQ : Q (.bool b) s) : wpAny (model PR w) A (compareOp .Eq (.str (ofL [c]) u) (.str (Str.ofString "\"") wt)) Q E s := by
  refine P.eq_str ?_
  have e : ((ofL [c]).cps.toList == (Str.ofString "\"").cps.toList) = decide (c = 34) := by
    rw [show (Str.ofString "\"") = ofL [34] from quo_is]
    show (([c].toArray.toList) == [34].toArray.toList) = _
    by_cases q : c = 34
    · subst q; rfl
    · simp [q]
  rw [e, h]; exact hQ
theorem eqb {Q : Value → Shared → Prop} (b : Bool) (h : decide (c = 92) = b) (hQ : Q (.bool b) s) : wpAny (model PR w) A (compareOp .Eq (.str (ofL [c]) u) (.str (Str.ofString "\\") wt)) Q E s := by
  refine P.eq_str ?_
  have e : ((ofL [c]).cps.toList == (Str.ofString "\\").cps.toList) = decide (c = 92) := by
    rw [bsl]
    show (([c].toArray.toList) == [92].toArray.toList) = _
    by_cases q : c = 92
    · subst q; rfl
    · simp [q]
  rw [e, h]; exact hQ
theorem iaddC {Q : Value → Shared → Prop} {xs : List Nat} {t : Tok} (hl : xs.length ≤ 100000) (h : ∀ t' k, Q (.str (ofL (xs ++ [c])) t') { s with toks := k }) : wpAny (model PR w) A (inplaceOp .Add (.str (ofL xs) t) (.str (ofL [c]) u)) Q E s := by
  refine SB.iadd (fun t' k => ?_) ?_
  · rw [ofL_app]; exact h t' k
  · have h3 : sizeLine = 16777216 := rfl
    rw [ofL_len, ofL_len]; simp; omega
def CEnd (h₀ : Heap) (L : Addr) (s : Shared) (Jn : (Str → Option Value) → List (Addr × Obj) → Prop) (Q : Flow → Shared → Prop) (f : Flow) (s₂ : Shared) : Prop := match f with
  | .ret v => Q (.ret v) s₂
  | .brk => Q .next s₂
  | _ => ∃ h' tk m' led, s₂ = { s with heap := h', toks := tk } ∧ Fr h₀ L h' m' ∧ News h₀ L h' led ∧ Jn m' led
theorem CEnd.of {h₀ : Heap} {L : Addr} {s : Shared} {Jn : (Str → Option Value) → List (Addr × Obj) → Prop} {Q : Flow → Shared → Prop} {f : Flow} {h' : Heap} {tk : Nat} {m' : Str → Option Value} {led : List (Addr × Obj)}
    (hf : f = .next ∨ f = .cont) (F : Fr h₀ L h' m') (N : News h₀ L h' led) (hJ : Jn m' led) : CEnd h₀ L s Jn Q f { s with heap := h', toks := tk } := by
  rcases hf with rfl | rfl <;> exact ⟨h', tk, m', led, rfl, F, N, hJ⟩
theorem forC {env : Env} {x : Str} {px : Pos} {body : List Stmt} {Q : Flow → Shared → Prop} {h₀ : Heap} {m : Str → Option Value} {news : List (Addr × Obj)} {it q : Addr} {ts : Tok} {n : Nat}
    (J : Nat → (Str → Option Value) → List (Addr × Obj) → Prop) (hit : s.heap.get? it = some (ciObj q ts)) (F : Fr h₀ env.locals s.heap m) (N : News h₀ env.locals s.heap news) (h0 : J n m news)
    (turn : ∀ k m₁ led h tk, J k m₁ led → Fr h₀ env.locals h m₁ → News h₀ env.locals h led → ∀ E', wpAny (model PR w) A (pyNext (.ref it)) (fun r s₁ => match r with
      | none => Q .next s₁
      | some v => ∃ h' tk' led', s₁ = { s with heap := h', toks := tk' } ∧ Fr h₀ env.locals h' m₁ ∧ News h₀ env.locals h' led' ∧
          ∀ h₂, Fr h₀ env.locals h₂ (fun y => if y = x then some v else m₁ y) → News h₀ env.locals h₂ led' →
            wpAny (model PR w) A (execs body env) (CEnd h₀ env.locals s (fun m led => ∃ k', k' < k ∧ J k' m led) Q) (fun _ _ => False) { s with heap := h₂, toks := tk' + 1 }) E' { s with heap := h, toks := tk })
    (hx : env.kindOf x = some .local) (hp : (env.scope.kind == .class || (env.scope.kind == .module && env.locals != env.globals)) = false) :
    ForAt w A env (.Name x px) body Q (fun _ _ => False) (.ref it) s := by
  refine ci_iter hit ?_
  refine codeAny_forLoop (fun k s' => ∃ h' tk m' led, s' = { s with heap := h', toks := tk } ∧ Fr h₀ env.locals h' m' ∧ News h₀ env.locals h' led ∧ J k m' led) ?_ n ⟨_, s.toks, m, news, rfl, F, N, h0⟩
  rintro k s' ⟨h', tk, m', led, rfl, F', N', hJ⟩
  refine wpAny_mono (turn k m' led h' tk hJ F' N' _) (fun r s₁ h₁ => ?_) fun _ _ e => e
  cases r with
  | none => exact wpAny_execs_nil h₁
  | some v =>
    obtain ⟨h₁', tk₁, led₁, rfl, F₁, N₁, hb⟩ := h₁
    refine wpAny_assign_Name (wpAny_storeName_local hx F₁.ns (fun h₂ hn₂ hs₂ => ?_) hp)
    refine wpAny_mono (hb h₂ (F₁.set hn₂ hs₂) (N₁.set hs₂)) (fun f s₃ h₃ => ?_) fun _ _ e => e.elim
    have fin : (∃ h' tk m' led, s₃ = { s with heap := h', toks := tk } ∧ Fr h₀ env.locals h' m' ∧ News h₀ env.locals h' led ∧ ∃ k', k' < k ∧ J k' m' led) →
        ∃ mm, mm < k ∧ ∃ h' tk m' led, s₃ = { s with heap := h', toks := tk } ∧ Fr h₀ env.locals h' m' ∧ News h₀ env.locals h' led ∧ J mm m' led := by
      rintro ⟨a, b, c, d, e1, e2, e3, k', e4, e5⟩
      exact ⟨k', e4, a, b, c, d, e1, e2, e3, e5⟩
    cases f with
    | ret v => exact h₃
    | brk => exact h₃
    | next => exact fin h₃
    | cont => exact fin h₃
end
end Mine
end

section
open PySem PySem.W PySem.Calls PyProof.Rows
set_option maxRecDepth 100000
set_option maxHeartbeats 8000000
set_option linter.unusedVariables false
namespace Mine
abbrev gtM (lx it : Addr) (acc : List Nat) (ta : Tok) (mc : Option Value) : Str → Option Value := fun y => if y = S "ch" then mc else if y = S "token" then some (.str (ofL acc) ta) else if y = S "fiter" then some (.ref it) else if y = S "self" then some (.ref lx) else none
theorem gt_none {lx it : Addr} {acc : List Nat} {ta : Tok} {mc : Option Value} {y : Str} (k1 : y ≠ S "ch") (k2 : y ≠ S "token") (k3 : y ≠ S "fiter") (k4 : y ≠ S "self") : gtM lx it acc ta mc y = none := by
  simp only [gtM, if_neg k1, if_neg k2, if_neg k3, if_neg k4]
theorem ext_keys4 {m m' : Str → Option Value} (h1 : m (S "ch") = m' (S "ch")) (h2 : m (S "token") = m' (S "token")) (h3 : m (S "fiter") = m' (S "fiter")) (h4 : m (S "self") = m' (S "self")) (ho : ∀ y, y ≠ S "ch" → y ≠ S "token" → y ≠ S "fiter" → y ≠ S "self" → m y = m' y) : m = m' := by
  funext y
  by_cases k1 : y = S "ch"
  · rw [k1, h1]
  by_cases k2 : y = S "token"
  · rw [k2, h2]
  by_cases k3 : y = S "fiter"
  · rw [k3, h3]
  by_cases k4 : y = S "self"
  · rw [k4, h4]
  exact ho y k1 k2 k3 k4
theorem opq {α : Type} {M : Model} {A : Around} {E : Value → Shared → Prop} {s : Shared} {c : Sem α} {Q : α → Shared → Prop} (h : ∀ Q' : α → Shared → Prop, (∀ a s', Q a s' → Q' a s') → wpAny M A c Q' E s) : wpAny M A c Q E s := h Q fun _ _ x => x
theorem bareLoop {w : World} {A : Around} {env : Env} {tg : PySem.Expr} {body : List Stmt} {Q : Flow → Shared → Prop} {E : Value → Shared → Prop} {it : Addr} {s : Shared} {G : Prop} (PRE : Heap → Nat → Prop)
    (kp : ∀ h tk, PRE h tk → ForAt w A env tg body Q E (.ref it) { s with heap := h, toks := tk }) (mn : (∀ h tk, PRE h tk → ForAt w A env tg body Q E (.ref it) { s with heap := h, toks := tk }) → G) : G := mn kp
abbrev sgn (l : List Nat) : List Str := l.map fun c => ofL [c]
theorem nn10 {c : Nat} {z : Int} (h : 0 ≤ z) : 0 ≤ (if c = 10 then z + 1 else z) := by split <;> omega
theorem smallLn {la ln : Int} {a b n : Nat} (h : la + (a : Int) = ln + (b : Int)) (hb : b ≤ n) (hn : n < 900) (hl : ln < 900000) : la < 1000000 := by omega
theorem hzA {vb : List Value} {c n : Nat} {r acc : List Nat} (h : StrsAre vb (sgn r)) (h2 : acc.length + (c :: r).length ≤ n) (h3 : n < 900) : vb.length < 1000 := by have := h.len; simp at this h2; omega
theorem hzB {vb : List Value} {c n : Nat} {r : List Nat} (h : StrsAre vb (sgn r)) (h2 : (c :: r).length ≤ n) (h3 : n < 900) : vb.length < 1000 := by have := h.len; simp at this h2; omega
theorem hac {acc r : List Nat} {n : Nat} (h2 : acc.length + r.length ≤ n) (h3 : n < 900) : acc.length ≤ 100000 := by omega
theorem la1 {acc r : List Nat} {c d n : Nat} (h : acc.length + (c :: r).length ≤ n) : (acc ++ [d]).length + r.length ≤ n := by simp at h ⊢; omega
theorem la2 {acc r : List Nat} {b c d n : Nat} (h : acc.length + (b :: c :: r).length ≤ n) : (acc ++ [d]).length + r.length ≤ n := by simp at h ⊢; omega
theorem l01 {r : List Nat} {c n : Nat} (h : (c :: r).length ≤ n) : ([] : List Nat).length + r.length ≤ n := by simp at h ⊢; omega
theorem l02 {r r2 : List Nat} {c d n : Nat} (e : r = d :: r2) (h : (c :: r).length ≤ n) : [d].length + r2.length ≤ n := by subst e; simp at h ⊢; omega
theorem l03 {r : List Nat} {c n : Nat} (h : (c :: r).length ≤ n) : [c].length + r.length ≤ n := by simp at h ⊢; omega
inductive JL (IN : List Nat → List Nat → List Nat → Prop) (w : World) (P : LX) (it q : Addr) (ts : Tok) (np : Nat) (txt t rest : List Nat) (ln : Int) (k : Nat) (m : Str → Option Value) (led : List (Addr × Obj)) : Prop
  | mk (r acc t' : List Nat) (la : Int) (lta : Tok) (va : List Value) (na : Nat) (ta : Tok) (mc : Option Value) (e1 : k = r.length) (h1 : IN r t' rest) (h2 : t = acc ++ t') (h3 : 0 ≤ la) (h4 : la + (nls r : Int) = ln + (nls txt : Int))
    (h5 : StrsAre va (sgn r)) (h6 : acc.length + r.length ≤ txt.length) (e2 : led = gtL w P it q ts la lta va na np) (e3 : m = gtM P.lx it acc ta mc) : JL IN w P it q ts np txt t rest ln k m led
inductive JT (w : World) (P : LX) (it q : Addr) (ts tk0 : Tok) (np : Nat) (txt t rest : List Nat) (ln : Int) (k : Nat) (m : Str → Option Value) (led : List (Addr × Obj)) : Prop
  | mk (r : List Nat) (ln' : Int) (lt' : Tok) (vs' : List Value) (n' : Nat) (mc : Option Value) (e1 : k = r.length) (h1 : TokR r t rest) (h2 : 0 ≤ ln') (h3 : ln' + (nls r : Int) = ln + (nls txt : Int)) (h4 : StrsAre vs' (sgn r)) (h5 : r.length ≤ txt.length)
    (e2 : led = gtL w P it q ts ln' lt' vs' n' np) (e3 : m = gtM P.lx it [] tk0 mc) : JT w P it q ts tk0 np txt t rest ln k m led
local macro_rules | `(tactic| walk_at "truthy ref") => `(tactic| (k_here; k_dflt (refine truthyNil (by k_asm) (by k_mem) ?_; k_whole)))
local macro_rules | `(tactic| walk_at "call builtin:iter") => `(tactic| (k_here; k_dflt (refine iterK (by k_asm) (by k_asm) (by k_mem) ?_); (intro it h' F' N' l1); (k_lt l1)))
local macro_rules | `(tactic| walk_at "exec For Name Name cons nil") => `(tactic| (k_here; k_dflt (refine for_open ?_ (fun _ => rfl))))
local macro_rules | `(tactic| walk_at "compareOp In str str") => `(tactic| (k_here; k_dflt (first | (refine inWs_t (by assumption) ?_; k_whole) | (refine inWs_f (by assumption) (by assumption) ?_; k_whole))))
local macro_rules | `(tactic| walk_at "compareOp Eq str str") => `(tactic| (k_here; (first | ((with_reducible show wpAny _ _ (compareOp CmpOp.Eq (Value.str _ _) (Value.str (PySem.Str.ofString "\"") _)) _ _ _); k_dflt (refine eqq _ (by assumption) ?_; k_whole)) | ((with_reducible show wpAny _ _ (compareOp CmpOp.Eq (Value.str _ _) (Value.str (PySem.Str.ofString "\\") _)) _ _ _); k_dflt (refine eqb _ (by assumption) ?_; k_whole)))))
local macro_rules | `(tactic| walk_at "inplaceOp Add str str") => `(tactic| (k_here; k_dflt (refine iaddC (by assumption) ?_); intro t' k'))
local macro_rules | `(tactic| walk_at "call ref") => `(tactic| (k_here; k_dflt (refine rcK_cons (by assumption) (by assumption) (by assumption) (by k_asm) (by k_asm) (by assumption) (by assumption) (by assumption) (by assumption) (by assumption) (by assumption) rfl ?_); intro h' tk' lt' F' N'))
theorem gt_c {w : World} {b₀ : Heap} {dp un : Nat} {gd : Option (List Code)} {outer : List Env} {s : Shared} {R : Result → Shared → Prop} {P : LX} {ln : Int} {lt : Tok} {vs : List Value} {n np : Nat} {txt t rest : List Nat}
    (K : LXok w P) (G : Gd w b₀ outer s.heap (lexA P ++ [P.pb])) (hs : ∀ q ∈ lexL w P ln lt vs n [] np, s.heap.get? q.1 = some q.2) (hT : TokR txt t rest) (hvs : StrsAre vs (sgn txt)) (hlen : txt.length < 900) (hln : 0 ≤ ln ∧ ln < 900000)
    (hdp : dp + 60 < recursionLimit) (hun : un + 300 < cLine)
    (ret : ∀ h' tk ln' lt' vs' n' tt, Mod (lexA P ++ [P.pb]) s.heap h' → (∀ q ∈ lexL w P ln' lt' vs' n' [] np, h'.get? q.1 = some q.2) → 0 ≤ ln' → ln' + (nls rest : Int) = ln + (nls txt : Int) → StrsAre vs' (sgn rest) → R (.ok (.ret (.str (ofL t) tt))) { s with heap := h', toks := tk }) :
    codeAny (model PR w) (Aw none dp outer gd un) (.call (.ref 59) ⟨[.ref P.lx], []⟩) R s := by
  refine' enter (binds := [(S "self", .ref P.lx)]) (fps := lexL w P ln lt vs n [] np)
    (Φ := fun v' h' => Ex5 fun ln' lt' vs' n' tt => An5 (v' = .str (ofL t) tt) ((∀ q ∈ lexL w P ln' lt' vs' n' [] np, h'.get? q.1 = some q.2)) (0 ≤ ln') (ln' + (nls rest : Int) = ln + (nls txt : Int)) (StrsAre vs' (sgn rest))) G hs ?ho ?hcd ?hr ?hb ?hl ?body ?ret ?c1 ?c2 ?c3 ?c4
  case ho => k_dflt k_is
  case hcd => k_dflt k_is
  case hr => omega
  case hb => exact BindsTo.of_eq rfl
  case hl => exact locs rfl
  case c1 => rfl
  case c2 => rfl
  case c3 => rfl
  case c4 => decide
  · intro p loose mean mg mb g L' h₁ F N B X T l1
    have K' := K
    obtain ⟨_, o1, o2, o3, o4, o5, o6, o7, o8⟩ := K'
    k_lt l1
    clear ret
    try dsimp only
    k_steps
    rename_i tk0 _ q _ lq it h4 li h5 F0 N0
    have d40 : dp + 40 < recursionLimit := by omega
    have u220 : un + 220 < cLine := by omega
    have hq : @LT.lt Nat _ P.pb q := by omega
    have hi : @LT.lt Nat _ q it := by omega
    refine forC (n := txt.length) (JT w P it q (tk0 + 1 + 1 + 1) tk0 np txt t rest ln)
      (N0 _ (.head _)).1 F0 N0 ?init ?turn rfl rfl
    case init =>
      refine ⟨txt, ln, lt, vs, n, none, rfl, hT, hln.1, rfl, hvs, Nat.le_refl _, rfl, ?_⟩
      refine ext_keys4 rfl rfl rfl rfl fun y k1 k2 k3 k4 => ?_
      simp only [gtM, if_neg k1, if_neg k2, if_neg k3, if_neg k4, List.reverse_cons, List.reverse_nil, List.nil_append, List.lookup, beq_eq_false_iff_ne.mpr k4]
    case turn =>
      clear F0 N0 l1 lq li
      rintro k m1 led h tk ⟨r, ln', lt', vs', n', mc, rfl, hr, hln', hcnt, hvs', hrl, rfl, rfl⟩ F N E'
      have hcl : nls txt ≤ txt.length := List.count_le_length
      have hb : 0 ≤ ln' ∧ ln' < 1000000 := ⟨hln', smallLn hcnt hcl hlen hln.2⟩
      have four : (r = [] ∧ t = [] ∧ rest = []) ∨ (∃ c r1, r = c :: r1 ∧ isWs c = true ∧ TokR r1 t rest) ∨ (∃ r1, r = 34 :: r1 ∧ InQ r1 t rest) ∨
          (∃ c r1, r = c :: r1 ∧ isWs c = false ∧ c ≠ 34 ∧ c < 128 ∧ ((c = 92 ∧ Ex3 fun c0 r2 t' => An3 (r1 = c0 :: r2) (t = c0 :: t') (InB r2 t' rest)) ∨ (c ≠ 92 ∧ ∃ t', t = c :: t' ∧ InB r1 t' rest))) := by
        cases hr with
        | fin => exact .inl ⟨rfl, rfl, rfl⟩
        | skip a b => exact .inr (.inl ⟨_, _, rfl, a, b⟩)
        | quo a => exact .inr (.inr (.inl ⟨_, rfl, a⟩))
        | esc a => exact .inr (.inr (.inr ⟨_, _, rfl, by decide, by decide, by decide, .inl ⟨rfl, _, _, _, rfl, rfl, a⟩⟩))
        | plain a b c d e => exact .inr (.inr (.inr ⟨_, _, rfl, a, b, d, .inr ⟨c, _, rfl, e⟩⟩))
      clear hr
      rcases four with ⟨rfl, rfl, rfl⟩ | ⟨c, r1, rfl, hws, hr⟩ | ⟨r1, rfl, hr⟩ | ⟨c, r1, rfl, hws, h34, h128, hr⟩
      · cases hvs'
        refine nextK_nil K X G B F N hq hi hb d40 u220 rfl fun h' tk' F' N' => ?_
        clear F N
        dsimp only
        k_steps
        exact Ends.of F' ⟨ln', lt', [], n', tk0, rfl, fun q hq => (N' q hq).1, hln', hcnt, .nil⟩
      · obtain ⟨u, vs2, rfl, hvs2⟩ : ∃ u vs2, vs' = .str (ofL [c]) u :: vs2 ∧ StrsAre vs2 (sgn r1) := by cases hvs' with | cons q => exact ⟨_, _, rfl, q⟩
        have hz : vs2.length < 1000 := hzB hvs2 hrl hlen
        have hl2 : nls r1 ≤ r1.length := List.count_le_length
        have hcn := nls_cons c r1 ln'
        refine nextK_cons K X G B F N hq hi hb hz d40 u220 rfl fun h' tk' lt2 F' N' => ?_
        refine ⟨h', tk', _, rfl, F', N', fun h₂ F₂ N₂ => ?_⟩
        refine opq fun QQ hQQ => ?_
        clear F N F' N'
        k_steps
        refine hQQ _ _ ?_
        refine CEnd.of (.inr rfl) F₂ N₂ ⟨r1.length, by simp, r1, _, _, _, _, some (.str (ofL [c]) u), rfl, hr, ?_, ?_, hvs2, ?_, rfl, ?_⟩
        · exact nn10 hln'
        · exact hcn.trans hcnt
        · exact Nat.le_of_succ_le hrl
        · refine ext_keys4 rfl rfl rfl rfl fun y k1 k2 k3 k4 => ?_
          (repeat (first | refine (if_neg k1).trans ?_ | refine (if_neg k2).trans ?_ | refine (if_neg k3).trans ?_ | refine (if_neg k4).trans ?_)); exact (gt_none k1 k2 k3 k4).symm
      · obtain ⟨u, vs2, rfl, hvs2⟩ : ∃ u vs2, vs' = .str (ofL [34]) u :: vs2 ∧ StrsAre vs2 (sgn r1) := by cases hvs' with | cons q => exact ⟨_, _, rfl, q⟩
        have hz : vs2.length < 1000 := hzB hvs2 hrl hlen
        have hl2 : nls r1 ≤ r1.length := List.count_le_length
        have hcn := nls_cons 34 r1 ln'
        refine nextK_cons K X G B F N hq hi hb hz d40 u220 rfl fun h' tk' lt2 F' N' => ?_
        refine ⟨h', tk', _, rfl, F', N', fun FIh FI NI => ?_⟩
        refine opq fun QQ hQ0 => ?_
        clear F N F' N'
        have z1 : isWs 34 = false := rfl
        have z2 : (34 : Nat) < 128 := by decide
        have z3 : decide ((34 : Nat) = 34) = true := rfl
        k_steps
        clear z1 z2 z3
        have hlI : 0 ≤ (if 34 = 10 then ln' + 1 else ln') := nn10 hln'
        have hcI : (if 34 = 10 then ln' + 1 else ln') + (nls r1 : Int) = ln + (nls txt : Int) := hcn.trans hcnt
        have hvsI := hvs2
        refine forC (n := (r1).length) (JL InQ w P it q (tk0 + 1 + 1 + 1) np txt t rest ln)
          (NI _ (.head _)).1 FI NI ?init3 ?turn3 rfl rfl
        case init3 =>
          refine' ⟨r1, [], t, _, _, _, _, ?i3t, some (.str (ofL [34]) u), rfl, hr, ?i3a, ?i3b, ?i3c, hvsI, ?i3d, rfl, ?i3e⟩
          case i3e =>
            refine ext_keys4 rfl (by show some (Value.str _ _) = some (Value.str _ _); rfl) rfl rfl fun y k1 k2 k3 k4 => ?_
            (repeat (first | refine (if_neg k1).trans ?_ | refine (if_neg k2).trans ?_ | refine (if_neg k3).trans ?_ | refine (if_neg k4).trans ?_)); exact (gt_none k1 k2 k3 k4).symm
          case i3a => first | (rw [hte]; rfl) | simp
          case i3b => exact hlI
          case i3c => exact hcI
          case i3d => exact l01 hrl
        case turn3 =>
          clear FI NI hvsI
          rintro k m1 led hh tk3 ⟨r, acc, t', la, lta, va, na, ta, mc2, rfl, hr2, ht, hla, hca, hva, hra, rfl, rfl⟩ F N E2
          have hcl : nls txt ≤ txt.length := List.count_le_length
          have hb : 0 ≤ la ∧ la < 1000000 := ⟨hla, smallLn hca hcl hlen hln.2⟩
          have hacc : acc.length ≤ 100000 := hac hra hlen
          have three : (r = 34 :: rest ∧ t' = []) ∨ (Ex3 fun c0 r2 t2 => An3 (r = 92 :: c0 :: r2) (t' = c0 :: t2) (InQ r2 t2 rest)) ∨ (Ex3 fun c0 r2 t2 => An5 (r = c0 :: r2) (t' = c0 :: t2) (decide (c0 = 34) = false) (decide (c0 = 92) = false) (InQ r2 t2 rest)) := by
            cases hr2 with
            | stop => exact .inl ⟨rfl, rfl⟩
            | esc a => exact .inr (.inl ⟨_, _, _, rfl, rfl, a⟩)
            | plain a b c => exact .inr (.inr ⟨_, _, _, rfl, rfl, decide_eq_false a, decide_eq_false b, c⟩)
          clear hr2
          rcases three with ⟨rfl, rfl⟩ | ⟨c0, r2, t2, rfl, rfl, hr2⟩ | ⟨c0, r2, t2, rfl, rfl, z1, z2, hr2⟩
          · obtain ⟨u2, vb, rfl, hvb⟩ : ∃ u2 vb, va = .str (ofL [34]) u2 :: vb ∧ StrsAre vb (sgn (rest)) := by cases hva with | cons q => exact ⟨_, _, rfl, q⟩
            have hz : vb.length < 1000 := hzA hvb hra hlen
            have hl2 : nls (rest) ≤ (rest).length := List.count_le_length
            have hcn := nls_cons 34 (rest) la
            refine nextK_cons K X G B F N hq hi hb hz d40 u220 rfl fun h' tk' lt2 F' N' => ?_
            refine ⟨h', tk', _, rfl, F', N', fun h₂ F₂ N₂ => ?_⟩
            refine opq fun QQ hQQ => ?_
            clear F N F' N'
            have z3 : decide ((34 : Nat) = 34) = true := rfl
            k_steps
            refine hQQ _ _ ?_
            dsimp only [CEnd]
            refine hQ0 _ _ ?_
            dsimp only [CEnd]
            exact Ends.of F₂ ⟨_, _, vb, _, ta, by rw [ht, List.append_nil], fun q hq => (N₂ q (.tail _ (.tail _ hq))).1, nn10 hla, hcn.trans hca, hvb⟩
          · obtain ⟨u2, vb, rfl, hvb⟩ : ∃ u2 vb, va = .str (ofL [92]) u2 :: vb ∧ StrsAre vb (sgn (c0 :: r2)) := by cases hva with | cons q => exact ⟨_, _, rfl, q⟩
            have hz : vb.length < 1000 := hzA hvb hra hlen
            have hl2 : nls (c0 :: r2) ≤ (c0 :: r2).length := List.count_le_length
            have hcn := nls_cons 92 (c0 :: r2) la
            refine nextK_cons K X G B F N hq hi hb hz d40 u220 rfl fun h' tk' lt2 F' N' => ?_
            refine ⟨h', tk', _, rfl, F', N', fun h₂ F₂ N₂ => ?_⟩
            refine opq fun QQ hQQ => ?_
            clear F N F' N'
            obtain ⟨u3, vc, rfl, hvc⟩ : ∃ u3 vc, vb = .str (ofL [c0]) u3 :: vc ∧ StrsAre vc (sgn r2) := by cases hvb with | cons q => exact ⟨_, _, rfl, q⟩
            have hzc : vc.length < 1000 := Nat.lt_of_succ_lt hz
            have hcn2 := nls_cons c0 r2 (if 92 = 10 then la + 1 else la)
            have hb2 : 0 ≤ (if (92 : Nat) = 10 then la + 1 else la) ∧ (if (92 : Nat) = 10 then la + 1 else la) < 1000000 := by simp; exact hb
            have y1 : decide ((92 : Nat) = 34) = false := rfl
            have y2 : decide ((92 : Nat) = 92) = true := rfl
            k_steps
            refine hQQ _ _ ?_
            refine' CEnd.of (.inl rfl) ?cF3q ?cN3q ?cJ3q
            case cF3q => assumption
            case cN3q => assumption
            refine' ⟨r2.length, ?g13q, r2, acc ++ [c0], t2, _, _, vc, _, ?ta3q, some (.str (ofL [c0]) u3), rfl, hr2, ?g23q, ?g33q, ?g43q, hvc, ?g53q, rfl, ?g63q⟩
            case g63q =>
              refine ext_keys4 rfl (by show some (Value.str _ _) = some (Value.str _ _); rfl) rfl rfl fun y k1 k2 k3 k4 => ?_
              (repeat (first | refine (if_neg k1).trans ?_ | refine (if_neg k2).trans ?_ | refine (if_neg k3).trans ?_ | refine (if_neg k4).trans ?_)); exact (gt_none k1 k2 k3 k4).symm
            case g13q => exact Nat.lt_succ_of_lt (Nat.lt_succ_self _)
            case g23q => rw [ht]; simp
            case g33q => exact nn10 hb2.1
            case g43q => exact hcn2.trans (hcn.trans hca)
            case g53q => exact la2 hra
          · obtain ⟨u2, vb, rfl, hvb⟩ : ∃ u2 vb, va = .str (ofL [c0]) u2 :: vb ∧ StrsAre vb (sgn (r2)) := by cases hva with | cons q => exact ⟨_, _, rfl, q⟩
            have hz : vb.length < 1000 := hzA hvb hra hlen
            have hl2 : nls (r2) ≤ (r2).length := List.count_le_length
            have hcn := nls_cons c0 (r2) la
            refine nextK_cons K X G B F N hq hi hb hz d40 u220 rfl fun h' tk' lt2 F' N' => ?_
            refine ⟨h', tk', _, rfl, F', N', fun h₂ F₂ N₂ => ?_⟩
            refine opq fun QQ hQQ => ?_
            clear F N F' N'
            k_steps
            refine hQQ _ _ ?_
            refine' CEnd.of (.inl rfl) ?dF3q ?dN3q ?dJ3q
            case dF3q => assumption
            case dN3q => assumption
            refine' ⟨r2.length, ?p13q, r2, acc ++ [c0], t2, _, _, vb, _, ?tb3q, some (.str (ofL [c0]) u2), rfl, hr2, ?p23q, ?p33q, ?p43q, hvb, ?p53q, rfl, ?p63q⟩
            case p63q =>
              refine ext_keys4 rfl (by show some (Value.str _ _) = some (Value.str _ _); rfl) rfl rfl fun y k1 k2 k3 k4 => ?_
              (repeat (first | refine (if_neg k1).trans ?_ | refine (if_neg k2).trans ?_ | refine (if_neg k3).trans ?_ | refine (if_neg k4).trans ?_)); exact (gt_none k1 k2 k3 k4).symm
            case p13q => simp
            case p23q => rw [ht]; simp
            case p33q => exact nn10 hla
            case p43q => exact hcn.trans hca
            case p53q => exact la1 hra
      · obtain ⟨u, vs2, rfl, hvs2⟩ : ∃ u vs2, vs' = .str (ofL [c]) u :: vs2 ∧ StrsAre vs2 (sgn r1) := by cases hvs' with | cons q => exact ⟨_, _, rfl, q⟩
        have hz : vs2.length < 1000 := hzB hvs2 hrl hlen
        have hl2 : nls r1 ≤ r1.length := List.count_le_length
        have hcn := nls_cons c r1 ln'
        refine nextK_cons K X G B F N hq hi hb hz d40 u220 rfl fun h' tk' lt2 F' N' => ?_
        refine ⟨h', tk', _, rfl, F', N', fun h₂ F₂ N₂ => ?_⟩
        refine opq fun QQ hQ0 => ?_
        clear F N F' N'
        have hl0 : 0 ≤ (if c = 10 then ln' + 1 else ln') := nn10 hln'
        have hc0 : (if c = 10 then ln' + 1 else ln') + (nls r1 : Int) = ln + (nls txt : Int) := hcn.trans hcnt
        have hb0 : (if c = 10 then ln' + 1 else ln') < 1000000 := smallLn hc0 hcl hlen hln.2
        generalize (if c = 10 then ln' + 1 else ln') = ln1 at hl0 hc0 hb0 N₂
        clear hcn
        have hacc : ([] : List Nat).length ≤ 100000 := by decide
        have z3 : decide (c = 34) = false := decide_eq_false h34
        refine' bareLoop (PRE := fun hI tkI => Ex3 fun k m led => An3 (Fr g L' hI m) (News g L' hI led) (JL InB w P it q (tk0 + 1 + 1 + 1) np txt t rest ln k m led)) (w := w) (s := s) (A := _) (env := _) (tg := _) (body := _) (Q := _) (E := _) (it := it) ?kp ?mn
        case mn =>
          intro key
          rcases hr with ⟨e92, c0, r2, t1, er, hte, hr⟩ | ⟨h92, t1, hte, hr⟩
          · have hvs2' := hvs2
            rw [er] at hvs2'
            obtain ⟨u3, vs3, rfl, hvs3⟩ : ∃ u3 vs3, vs2 = .str (ofL [c0]) u3 :: vs3 ∧ StrsAre vs3 (sgn r2) := by cases hvs2' with | cons q => exact ⟨_, _, rfl, q⟩
            clear hvs2'
            have hz3 : vs3.length < 1000 := Nat.lt_of_succ_lt hz
            have hb2 : 0 ≤ ln1 ∧ ln1 < 1000000 := ⟨hl0, hb0⟩
            have hcn2 := nls_cons c0 r2 ln1
            have z4 : decide (c = 92) = true := decide_eq_true e92
            k_steps
            rename_i FI NI
            have hl9 : nls r1 = nls (c0 :: r2) := by rw [er]
            refine' key _ _ ⟨_, _, _, frEq FI ?f1, NI, r2, [c0], t1, _, _, _, _, ?f0, some (.str (ofL [c0]) u3), rfl, hr, hte, ?f2, ?f3, hvs3, ?f4, rfl, rfl⟩
            case f1 =>
              refine ext_keys4 rfl (by show some (Value.str _ _) = some (Value.str _ _); rfl) rfl rfl fun y k1 k2 k3 k4 => ?_
              (repeat (first | refine (if_neg k1).trans ?_ | refine (if_neg k2).trans ?_ | refine (if_neg k3).trans ?_ | refine (if_neg k4).trans ?_)); exact (gt_none k1 k2 k3 k4).symm
            case f2 => exact nn10 hl0
            case f3 => exact hcn2.trans (by rw [← hl9]; exact hc0)
            case f4 => exact l02 er hrl
          · have z4 : decide (c = 92) = false := decide_eq_false h92
            k_steps
            rename_i FI NI
            refine' key _ _ ⟨_, _, _, frEq FI ?e1, NI, r1, [c], t1, _, _, _, _, ?e0, some (.str (ofL [c]) u), rfl, hr, hte, hl0, hc0, hvs2, ?e4, rfl, rfl⟩
            case e1 =>
              refine ext_keys4 rfl (by show some (Value.str _ _) = some (Value.str _ _); rfl) rfl rfl fun y k1 k2 k3 k4 => ?_
              (repeat (first | refine (if_neg k1).trans ?_ | refine (if_neg k2).trans ?_ | refine (if_neg k3).trans ?_ | refine (if_neg k4).trans ?_)); exact (gt_none k1 k2 k3 k4).symm
            case e4 => exact l03 hrl
        case kp =>
          clear hr N₂ F₂ hvs2 hz hacc z3
          rintro hI tkI ⟨kI, mI, ledI, FI, NI, hJ⟩
          have hJ' := hJ
          obtain ⟨rI, accI, tI, laI, ltaI, vaI, naI, taI, mcI, rfl, hrI, htI, hlI, hcI, hvsI, hdI, rfl, rfl⟩ := hJ'
          refine forC (n := rI.length) (JL InB w P it q (tk0 + 1 + 1 + 1) np txt t rest ln)
            (NI _ (.head _)).1 FI NI hJ ?turn4 rfl rfl
          case turn4 =>
            clear FI NI hJ hvsI hrI htI hlI hcI hdI
            rintro k m1 led hh tk3 ⟨r, acc, t', la, lta, va, na, ta, mc2, rfl, hr2, ht, hla, hca, hva, hra, rfl, rfl⟩ F N E2
            have hcl : nls txt ≤ txt.length := List.count_le_length
            have hb : 0 ≤ la ∧ la < 1000000 := ⟨hla, smallLn hca hcl hlen hln.2⟩
            have hacc : acc.length ≤ 100000 := hac hra hlen
            have three : (∃ c0, r = c0 :: rest ∧ t' = [] ∧ isWs c0 = true) ∨ (Ex3 fun c0 r2 t2 => An3 (r = 92 :: c0 :: r2) (t' = c0 :: t2) (InB r2 t2 rest)) ∨ (Ex3 fun c0 r2 t2 => An6 (r = c0 :: r2) (t' = c0 :: t2) (isWs c0 = false) (c0 < 128) (decide (c0 = 92) = false) (InB r2 t2 rest)) := by
              cases hr2 with
              | stop a => exact .inl ⟨_, rfl, rfl, a⟩
              | esc a => exact .inr (.inl ⟨_, _, _, rfl, rfl, a⟩)
              | plain a b c d => exact .inr (.inr ⟨_, _, _, rfl, rfl, a, c, decide_eq_false b, d⟩)
            clear hr2
            rcases three with ⟨c0, rfl, rfl, z1⟩ | ⟨c0, r2, t2, rfl, rfl, hr2⟩ | ⟨c0, r2, t2, rfl, rfl, z1, z2, z3, hr2⟩
            · obtain ⟨u2, vb, rfl, hvb⟩ : ∃ u2 vb, va = .str (ofL [c0]) u2 :: vb ∧ StrsAre vb (sgn (rest)) := by cases hva with | cons q => exact ⟨_, _, rfl, q⟩
              have hz : vb.length < 1000 := hzA hvb hra hlen
              have hl2 : nls (rest) ≤ (rest).length := List.count_le_length
              have hcn := nls_cons c0 (rest) la
              refine nextK_cons K X G B F N hq hi hb hz d40 u220 rfl fun h' tk' lt2 F' N' => ?_
              refine ⟨h', tk', _, rfl, F', N', fun h₂ F₂ N₂ => ?_⟩
              refine opq fun QQ hQQ => ?_
              clear F N F' N'
              k_steps
              refine hQQ _ _ ?_
              dsimp only [CEnd]
              refine hQ0 _ _ ?_
              dsimp only [CEnd]
              exact Ends.of F₂ ⟨_, _, vb, _, ta, by rw [ht, List.append_nil], fun q hq => (N₂ q (.tail _ (.tail _ hq))).1, nn10 hla, hcn.trans hca, hvb⟩
            · obtain ⟨u2, vb, rfl, hvb⟩ : ∃ u2 vb, va = .str (ofL [92]) u2 :: vb ∧ StrsAre vb (sgn (c0 :: r2)) := by cases hva with | cons q => exact ⟨_, _, rfl, q⟩
              have hz : vb.length < 1000 := hzA hvb hra hlen
              have hl2 : nls (c0 :: r2) ≤ (c0 :: r2).length := List.count_le_length
              have hcn := nls_cons 92 (c0 :: r2) la
              refine nextK_cons K X G B F N hq hi hb hz d40 u220 rfl fun h' tk' lt2 F' N' => ?_
              refine ⟨h', tk', _, rfl, F', N', fun h₂ F₂ N₂ => ?_⟩
              refine opq fun QQ hQQ => ?_
              clear F N F' N'
              obtain ⟨u3, vc, rfl, hvc⟩ : ∃ u3 vc, vb = .str (ofL [c0]) u3 :: vc ∧ StrsAre vc (sgn r2) := by cases hvb with | cons q => exact ⟨_, _, rfl, q⟩
              have hzc : vc.length < 1000 := Nat.lt_of_succ_lt hz
              have hcn2 := nls_cons c0 r2 (if 92 = 10 then la + 1 else la)
              have hb2 : 0 ≤ (if (92 : Nat) = 10 then la + 1 else la) ∧ (if (92 : Nat) = 10 then la + 1 else la) < 1000000 := by simp; exact hb
              have y1 : isWs 92 = false := rfl
              have y3 : (92 : Nat) < 128 := by decide
              have y2 : decide ((92 : Nat) = 92) = true := rfl
              k_steps
              refine hQQ _ _ ?_
              refine' CEnd.of (.inl rfl) ?cF4q ?cN4q ?cJ4q
              case cF4q => assumption
              case cN4q => assumption
              refine' ⟨r2.length, ?g14q, r2, acc ++ [c0], t2, _, _, vc, _, ?ta4q, some (.str (ofL [c0]) u3), rfl, hr2, ?g24q, ?g34q, ?g44q, hvc, ?g54q, rfl, ?g64q⟩
              case g64q =>
                refine ext_keys4 rfl (by show some (Value.str _ _) = some (Value.str _ _); rfl) rfl rfl fun y k1 k2 k3 k4 => ?_
                (repeat (first | refine (if_neg k1).trans ?_ | refine (if_neg k2).trans ?_ | refine (if_neg k3).trans ?_ | refine (if_neg k4).trans ?_)); exact (gt_none k1 k2 k3 k4).symm
              case g14q => exact Nat.lt_succ_of_lt (Nat.lt_succ_self _)
              case g24q => rw [ht]; simp
              case g34q => exact nn10 hb2.1
              case g44q => exact hcn2.trans (hcn.trans hca)
              case g54q => exact la2 hra
            · obtain ⟨u2, vb, rfl, hvb⟩ : ∃ u2 vb, va = .str (ofL [c0]) u2 :: vb ∧ StrsAre vb (sgn (r2)) := by cases hva with | cons q => exact ⟨_, _, rfl, q⟩
              have hz : vb.length < 1000 := hzA hvb hra hlen
              have hl2 : nls (r2) ≤ (r2).length := List.count_le_length
              have hcn := nls_cons c0 (r2) la
              refine nextK_cons K X G B F N hq hi hb hz d40 u220 rfl fun h' tk' lt2 F' N' => ?_
              refine ⟨h', tk', _, rfl, F', N', fun h₂ F₂ N₂ => ?_⟩
              refine opq fun QQ hQQ => ?_
              clear F N F' N'
              k_steps
              refine hQQ _ _ ?_
              refine' CEnd.of (.inl rfl) ?dF4q ?dN4q ?dJ4q
              case dF4q => assumption
              case dN4q => assumption
              refine' ⟨r2.length, ?p14q, r2, acc ++ [c0], t2, _, _, vb, _, ?tb4q, some (.str (ofL [c0]) u2), rfl, hr2, ?p24q, ?p34q, ?p44q, hvb, ?p54q, rfl, ?p64q⟩
              case p64q =>
                refine ext_keys4 rfl (by show some (Value.str _ _) = some (Value.str _ _); rfl) rfl rfl fun y k1 k2 k3 k4 => ?_
                (repeat (first | refine (if_neg k1).trans ?_ | refine (if_neg k2).trans ?_ | refine (if_neg k3).trans ?_ | refine (if_neg k4).trans ?_)); exact (gt_none k1 k2 k3 k4).symm
              case p14q => simp
              case p24q => rw [ht]; simp
              case p34q => exact nn10 hla
              case p44q => exact hcn.trans hca
              case p54q => exact la1 hra
  · rintro v' h' tk hm ⟨ln', lt', vs', n', tt, rfl, e1, e2, e3, e4⟩
    exact ret h' tk ln' lt' vs' n' tt hm e1 e2 e3 e4
end Mine
end

section
open PySem PySem.W PySem.Calls PyProof.Rows PySem.Spec
set_option maxRecDepth 100000
set_option maxHeartbeats 2000000
set_option linter.unusedVariables false
namespace Mine
theorem xs_canLay : ∀ ns : List Str, (∀ x ∈ ns, PyData.strOk x = true) → PyData.canLayAll0 (ns.map PyData.str) = true
  | [], _ => rfl
  | x :: r, h => by
    simp only [List.map_cons, PyData.canLayAll0, PyData.canLay0, h x (.head _), Bool.true_and]
    exact xs_canLay r fun y hy => h y (.tail _ hy)
theorem xs_depth : ∀ ns : List Str, PyData.depthAll (ns.map PyData.str) = 0
  | [] => rfl
  | _ :: r => by simp [PyData.depthAll, PyData.depth, xs_depth r]
theorem xs_shaped {ns : List Str} (h : ∀ x ∈ ns, PyData.strOk x = true) : SeqAt.shaped (.list (ns.map PyData.str)) = true := by
  simp [SeqAt.shaped, PyData.canLay0, PyData.depth, xs_canLay ns h, xs_depth]
theorem xs_sameAll : ∀ ns ms : List Str, PySem.Spec.sameAll (ns.map PyData.str) (ms.map PyData.str) = decide (ns = ms)
  | [], [] => by simp [PySem.Spec.sameAll]
  | [], _ :: _ => by simp [PySem.Spec.sameAll]
  | _ :: _, [] => by simp [PySem.Spec.sameAll]
  | a :: r, b :: t => by
    simp only [List.map_cons, PySem.Spec.sameAll, PySem.Spec.same, xs_sameAll r t]
    by_cases h : a = b <;> by_cases h' : r = t <;> simp [h, h']
theorem xs_same (ns ms : List Str) : PySem.Spec.same (.list (ns.map PyData.str)) (.list (ms.map PyData.str)) = decide (ns = ms) := by
  simp only [PySem.Spec.same]; exact xs_sameAll ns ms
theorem xs_carried : ∀ {vs : List Value} {ns : List Str}, Mine.StrsAre vs ns → CarriedAll vs (ns.map PyData.str)
  | _, _, .nil => .nil
  | _, _, .cons (t := t) r => .cons (.str _ t) (xs_carried r)
section
variable {prog : Program} {w : World} {A : Around} {E : Value → Shared → Prop} {s : Shared} {a b : Addr} {xs ys : List Value} {ns ms : List Str} {Q : Value → Shared → Prop}
theorem eq_strs (ha : s.heap.IsList a xs.toArray) (hb : s.heap.IsList b ys.toArray) (hi : Mine.StrsAre xs ns) (hj : Mine.StrsAre ys ms) (o1 : ∀ x ∈ ns, PyData.strOk x = true) (o2 : ∀ x ∈ ms, PyData.strOk x = true) (hu : A.units + 64 < cLine) (h : Q (.bool (decide (ns = ms))) s) :
    wpAny (model prog w) A (compareOp .Eq (.ref a) (.ref b)) Q E s :=
  eq_dataH_same (reads_newData ha (xs_carried hi)) (reads_newData hb (xs_carried hj)) (xs_shaped o1) (xs_shaped o2) hu (SeqAt.noMix_of_shape (.list .str) rfl _ _ (list_str_has _) (list_str_has _)) (by rw [xs_same]; exact h)
theorem ne_strs (ha : s.heap.IsList a xs.toArray) (hb : s.heap.IsList b ys.toArray) (hi : Mine.StrsAre xs ns) (hj : Mine.StrsAre ys ms) (o1 : ∀ x ∈ ns, PyData.strOk x = true) (o2 : ∀ x ∈ ms, PyData.strOk x = true) (hu : A.units + 64 < cLine) (h : Q (.bool (!decide (ns = ms))) s) :
    wpAny (model prog w) A (compareOp .NotEq (.ref a) (.ref b)) Q E s :=
  ne_dataH_same (reads_newData ha (xs_carried hi)) (reads_newData hb (xs_carried hj)) (xs_shaped o1) (xs_shaped o2) hu (SeqAt.noMix_of_shape (.list .str) rfl _ _ (list_str_has _) (list_str_has _)) (by rw [xs_same]; exact h)
end
end Mine
end

section
open PySem PySem.W PySem.Calls PyProof.Rows
set_option maxRecDepth 100000
set_option maxHeartbeats 4000000
set_option linter.unusedVariables false
namespace Mine
theorem enterC {w : World} {b₀ : Heap} {hn : Option Value} {dp un : Nat} {gd : Option (List Code)} {outer : List Env} {s : Shared} {fps : List (Addr × Obj)}
    {R : Result → Shared → Prop} {name qual : Str} {params : Arguments} {body : List Stmt} {scope : Scope} {dV kV doc pm cdv ct oc : Value} {an od : Option Addr} {osl : Array (Option Value)} {f : Addr} {args : Args} {binds : List (Str × Value)}
    {Φ : Value → Heap → Prop}
    (G : Gd w b₀ outer s.heap (fps.map (·.1))) (hfp : ∀ q ∈ fps, s.heap.get? q.1 = some q.2)
    (ho : (hd.heap_39 w.params).lookup f = some ⟨oc, od, .func (fnOf name qual params body scope dV kV doc pm an cdv ct), osl⟩) (hcd : codeIn (hd.heap_39 w.params) cdv qual = true) (hroom : dp < recursionLimit)
    (hbind : BindsTo s (fnOf name qual params body scope dV kV doc pm an cdv ct) args binds) (hkind : (binds.all fun y => scope.names.lookup y.1 == some .local || scope.names.lookup y.1 == some .cell) = true)
    (hnd : ((cellsFrom 0 scope.names []).map (·.1)).Nodup)
    (h : ∀ p loose mean mg mb g L' h₁ tk cells, Fr g L' h₁ (bindL (envOfC qual scope L' f cdv).kindOf binds fun _ => none) → News g L' h₁ (cells ++ fps) → CellsAre (bindC (envOfC qual scope L' f cdv).kindOf binds fun _ => none) (cellsFrom (L' + 1) scope.names []) cells →
      Below (Aw hn dp outer gd un) b₀ outer g → (hd.heap_39 w.params).In g → Top p loose mean mg mb g → (∀ q ∈ fps, q.1 < L') → (∀ b o, s.heap.get? b = some o → b ∉ fps.map (·.1) → g.get? b = some o) →
      wpAny (model PR w) ((Aw hn dp outer gd un).deeper (envOfC qual scope L' f cdv)) (execs body (envOfC qual scope L' f cdv))
        (fun fl s' => Ends s g Φ (match fl with | .ret v => v | _ => .none) s')
        (fun _ _ => False)
        { s with heap := h₁, toks := tk })
    (ret : ∀ v h' tk, Mod (fps.map (·.1)) s.heap h' → Φ v h' → R (.ok (.ret v)) { s with heap := h', toks := tk })
    (hco : scope.isCoroutine = false) (hgen : scope.isGenerator = false) (hk : scope.kind = .function) :
    codeAny (model PR w) (Aw hn dp outer gd un) (.call (.ref f) args) R s := by
  obtain ⟨X, ⟨p, loose, mean, mg, mb, T⟩, st, ff, ap⟩ := G
  have nm : ∀ b o, b₀.get? b = some o → b ∉ fps.map (·.1) := fun b o e q => by
    rw [(ap b q).1] at e; cases e
  have st' : b₀.StaysIn (hideAll s.heap (fps.map (·.1))) := fun b o e => hideAll_get _ (st b o e) (nm b o e)
  have X' := X.keeps st'
  have T' := T.keeps st'
  have Xs := X.keeps st
  have B : Below (Aw hn dp outer gd un) b₀ outer (hideAll s.heap (fps.map (·.1))) := ⟨rfl, st', funFrames_hideAll ff fun env he a ha => (ap a ha).2 env he⟩
  refine codeAny_call_function hroom (Xs _ _ ho) rfl hco hgen rfl (codeRec_of Xs hcd) ?_
  refine hbind _ _ _ _ (wpAny_newFunctionEnv_cells hk (kindsX hkind _) fun env' he s' x => ?_)
  subst he
  refine ⟨(T.keeps st).nolimit.keeps x.toInCall.keep, codeAny_func ?_⟩
  obtain ⟨h₁, tk, rfl, _⟩ := x.done
  have hk₁ := x.toInCall.keep
  obtain ⟨cells, NC, Y⟩ := Cl.news (h₀ := s.heap) (Nat.le_refl _) fun n c hm => ⟨x.cell n c (lookup_of_mem_nodup (cellsFrom_names scope.names 0 (s.heap.objs.size + 1) [] [] rfl ▸ hnd) hm), x.above n c hm⟩
  refine wpAny_mono (h p loose mean mg mb (hideAll s.heap (fps.map (·.1))) s.heap.objs.size h₁ tk cells ⟨x.toInCall.ns, fun b o e => hk₁ b o (of_hideAll _ e), Nat.le_of_eq (hideAll_size _ _)⟩ (fun q hq => ?_) Y B X' T' (fun q hq => Heap.lt_size (hfp q hq))
    (fun b o e hb => hideAll_get _ e hb)) (fun fl s' hl => ?_) fun _ _ y => y.elim
  · rcases List.mem_append.mp hq with hq | hq
    · refine ⟨(NC q hq).1, (NC q hq).2.1, ?_⟩
      cases q' : (hideAll s.heap (fps.map (·.1))).get? q.1 with
      | none => rfl
      | some o => have := of_hideAll _ q'; rw [(NC q hq).2.2] at this; cases this
    · exact ⟨hk₁ _ _ (hfp q hq), Nat.ne_of_lt (Heap.lt_size (hfp q hq)), hideAll_none _ (List.mem_map_of_mem hq)⟩
  · obtain ⟨h', tk, rfl, sg, hΦ⟩ := hl.out
    exact ret _ _ _ (fun b o e hb => sg b o (hideAll_get _ e hb)) hΦ
/-- a made lambda is called -/
theorem enterE {w : World} {b₀ : Heap} {hn : Option Value} {dp un : Nat} {gd : Option (List Code)} {outer : List Env} {s : Shared} {fps : List (Addr × Obj)}
    {R : Result → Shared → Prop} {name qual : Str} {params : Arguments} {body : PySem.Expr} {scope : Scope} {cl : List (Str × Addr)} {pm ctv : Value} {c' f : Addr} {args : Args} {binds : List (Str × Value)}
    {Φ : Value → Heap → Prop}
    (G : Gd w b₀ outer s.heap (fps.map (·.1))) (hfp : ∀ q ∈ fps, s.heap.get? q.1 = some q.2)
    (ho : (f, kla_obj name qual params body scope cl pm c' ctv) ∈ fps) (hcd : s.heap.CodeRec (.ref c') qual) (hroom : dp < recursionLimit)
    (hbind : bindArgs (kla_fn name qual params body scope cl pm (.ref c') ctv) args = pure binds) (hloc : ∀ y ∈ binds, scope.names.lookup y.1 = some .local)
    (h : ∀ p loose mean mg mb g L' h₁, Fr g L' h₁ (fun y => binds.reverse.lookup y) → News g L' h₁ fps → Below (Aw hn dp outer gd un) b₀ outer g → (hd.heap_39 w.params).In g → Top p loose mean mg mb g → (∀ q ∈ fps, q.1 < L') →
      wpAny (model PR w) ((Aw hn dp outer gd un).deeper (envX qual scope L' f (.ref c') cl)) (eval body (envX qual scope L' f (.ref c') cl))
        (fun v s' => Ends s g Φ v s')
        (fun _ _ => False)
        { s with heap := h₁, toks := s.toks + binds.length })
    (ret : ∀ v h' tk, Mod (fps.map (·.1)) s.heap h' → Φ v h' → R (.ok (.ret v)) { s with heap := h', toks := tk })
    (hco : scope.isCoroutine = false) (hgen : scope.isGenerator = false) (hk : scope.kind = .function)
    (hcell : ∀ x ∈ scope.names, x.2 ≠ .cell) :
    codeAny (model PR w) (Aw hn dp outer gd un) (.call (.ref f) args) R s := by
  obtain ⟨X, ⟨p, loose, mean, mg, mb, T⟩, st, ff, ap⟩ := G
  have nm : ∀ b o, b₀.get? b = some o → b ∉ fps.map (·.1) := fun b o e q => by
    rw [(ap b q).1] at e; cases e
  have st' : b₀.StaysIn (hideAll s.heap (fps.map (·.1))) := fun b o e => hideAll_get _ (st b o e) (nm b o e)
  have X' := X.keeps st'
  have T' := T.keeps st'
  have B : Below (Aw hn dp outer gd un) b₀ outer (hideAll s.heap (fps.map (·.1))) := ⟨rfl, st', funFrames_hideAll ff fun env he a ha => (ap a ha).2 env he⟩
  refine kla_callFunE hroom (hfp _ ho) rfl hco hgen rfl hcd ?_
  rw [hbind]
  refine wpAny_pure (wpAny_newFunctionEnv hcell hloc (fun h₁ hns hsb => ⟨((T.keeps st).nolimit).fresh _ hsb, ?_⟩) hk)
  show codeAny _ _ (.expr body (envX qual scope s.heap.objs.size f (.ref c') cl)) _ _
  have hk₁ : ∀ b o, s.heap.get? b = some o → h₁.get? b = some o := fun b o e => hsb.extBut b o (Nat.ne_of_lt (Heap.lt_size e)) (Heap.get?_push_of_some _ e)
  refine kla_codeExpr (wpAny_mono (h p loose mean mg mb _ s.heap.objs.size h₁ ⟨hns, fun b o e => hk₁ b o (of_hideAll _ e), Nat.le_of_eq (hideAll_size _ _)⟩
    (fun q hq => ⟨hk₁ _ _ (hfp q hq), Nat.ne_of_lt (Heap.lt_size (hfp q hq)), hideAll_none _ (List.mem_map_of_mem hq)⟩) B X' T' (fun q hq => Heap.lt_size (hfp q hq))) (fun v s' hl => ?_) fun _ _ y => y.elim)
  obtain ⟨h', tk, rfl, sg, hΦ⟩ := hl.out
  exact ret _ _ _ (fun b o e hb => sg b o (hideAll_get _ e hb)) hΦ
end Mine
end

section
open PySem PySem.W PySem.Calls PyProof.Rows
set_option maxRecDepth 100000
set_option maxHeartbeats 4000000
set_option linter.unusedVariables false
namespace Mine
theorem strs_of_carried : ∀ {vs : List Value} {ss : List Str}, CarriedAll vs (ss.map .str) → StrsAre vs ss
  | [], [], _ => .nil
  | [], _ :: _, h => by cases h
  | _ :: _, [], h => by cases h
  | v :: vs, x :: ss, h => by
    cases h with
    | cons a b => cases a with
      | str _ t => exact .cons (strs_of_carried b)
theorem listK {prog : Program} {w : World} {A : Around} {E : Value → Shared → Prop} {s : Shared} {h₀ : Heap} {L : Addr} {m : Str → Option Value} {Q : Value → Shared → Prop} {txt : List Nat} {t : Tok} {news : List (Addr × Obj)} (hh : A.handled = none) (F : Fr h₀ L s.heap m) (N : News h₀ L s.heap news)
    (hl : txt.length ≤ 1000) (h : ∀ D h' tk ys k, Fr h₀ L h' m → News h₀ L h' ((D, listOf (ys : List Value).toArray k) :: news) → (∀ p ∈ news, p.1 < D) → StrsAre ys (sgn txt) → Q (.ref D) { s with heap := h', toks := tk }) :
    wpAny (model prog w) A (call (.type "list") [.str (ofL txt) t]) Q E s := by
  have hsz : (ofL txt).length ≤ sizeLine := by
    rw [ofL_len]
    have : sizeLine = 16777216 := rfl
    omega
  refine list_strD hh F N (fun h' tk ys F' N' _ hnew _ hpl hc => ?_) hsz
  obtain ⟨⟨k, hk⟩, _⟩ := hpl
  refine h _ h' tk ys k F' (fun p hp => ?_) (fun p hp => Heap.lt_size (N p hp).1) ?_
  · rcases List.mem_cons.mp hp with rfl | hp
    · exact ⟨hk, Nat.ne_of_gt F.ns.lt, hnew⟩
    · exact N' p hp
  · have e : signs (ofL txt) = sgn txt := by
      show (txt.toArray.toList.map fun n => (⟨#[n]⟩ : Str)) = _
      simp [sgn, ofL]
    rw [e] at hc
    exact strs_of_carried hc
local macro_rules | `(tactic| walk_at "call type:list") => `(tactic| (k_here; (with_reducible show wpAny _ _ (call (Value.type _) [Value.str _ _]) _ _ _); k_dflt (refine listK rfl (by k_asm) (by k_asm) (by assumption) ?_); (intro D' h' tk' ys' k' F' N' l1 hst'); (k_lt l1)))
section
variable {w : World} {A : Around} {E : Value → Shared → Prop} {s : Shared} {h₀ : Heap} {L a b : Addr} {news : List (Addr × Obj)} {n k : Nat} {v : Value} {vs : List Value}
theorem neCons {Q : Value → Shared → Prop} (N : News h₀ L s.heap news) (ha : (a, listOf (v :: vs).toArray n) ∈ news) (hb : (b, listOf ([] : List Value).toArray k) ∈ news) (hu : A.units < cLine) (h : Q (.bool true) s) :
    wpAny (model PR w) A (compareOp .NotEq (.ref a) (.ref b)) Q E s := by
  have za := (N _ ha).1
  have zb := (N _ hb).1
  exact cmp_ofNotEq (richCompare_meets_room (op := .NotEq) (T := "list") ⟨_, za, rfl⟩ ⟨_, zb, rfl⟩ F.slot_list_ne F.entry_list_ne (F.args_list_ne_2 _ _) (SeqAt.list_ne_lengthsAt a b (v :: vs).toArray ([] : List Value).toArray n k none none #[] #[] (by simp)) ⟨za, zb, ⟨(fun x => nomatch x), h⟩⟩ hu)
theorem neNil {Q : Value → Shared → Prop} (N : News h₀ L s.heap news) (ha : (a, listOf ([] : List Value).toArray n) ∈ news) (hb : (b, listOf ([] : List Value).toArray k) ∈ news) (hu : A.units < cLine) (h : Q (.bool false) s) :
    wpAny (model PR w) A (compareOp .NotEq (.ref a) (.ref b)) Q E s := by
  have za := (N _ ha).1
  have zb := (N _ hb).1
  exact cmp_ofNotEq (richCompare_meets_room (op := .NotEq) (T := "list") ⟨_, za, rfl⟩ ⟨_, zb, rfl⟩ F.slot_list_ne F.entry_list_ne (F.args_list_ne_2 _ _) (SeqAt.list_neAt a b ([] : List Value).toArray ([] : List Value).toArray n k none none #[] #[] rfl (fun _ => true)) ⟨za, zb, (fun j h1 => by simp at h1), ⟨(fun x => nomatch x), by simpa using h⟩⟩ hu)
end
theorem four' {h : Heap} {a b c d : Addr} {oa ob oc od : Obj} (h1 : h.get? a = some oa) (h2 : h.get? b = some ob) (h3 : h.get? c = some oc) (h4 : h.get? d = some od) : ∀ q ∈ [(a, oa), (b, ob), (c, oc), (d, od)], h.get? q.1 = some q.2 := fun q hq => by
  simp only [List.mem_cons, List.not_mem_nil, or_false] at hq
  rcases hq with rfl | rfl | rfl | rfl <;> assumption
theorem enterL {w : World} {b₀ : Heap} {hn : Option Value} {dp un : Nat} {gd : Option (List Code)} {outer : List Env} {s : Shared}
    {R : Result → Shared → Prop} {name qual : Str} {params : Arguments} {body : PySem.Expr} {scope : Scope} {clos : List (Str × Addr)} {pm ctv : Value} {c' lf cl ls : Addr} {oc ocl : Obj} {args : Args} {vs0 : Array Value} {t0 : Tok} {xs : List Value} {n : Nat}
    (binds : List (Str × Value)) (Ψ : Value → Prop) (ys : List Value) (n' : Nat)
    (G : Gd w b₀ outer s.heap [lf, c', cl, ls]) (e1 : s.heap.get? lf = some (kla_obj name qual params body scope clos pm c' ctv)) (e2 : s.heap.get? c' = some oc) (e3 : s.heap.get? cl = some ocl) (e4 : s.heap.get? ls = some (listOf xs.toArray n))
    (hdt : oc.data = .fields vs0) (hq : vs0[1]? = some (.str qual t0)) (hroom : dp < recursionLimit)
    (hbind : bindArgs (kla_fn name qual params body scope clos pm (.ref c') ctv) args = pure binds) (hloc : ∀ y ∈ binds, scope.names.lookup y.1 = some .local)
    (hco : scope.isCoroutine = false) (hgen : scope.isGenerator = false) (hk : scope.kind = .function) (hcell : ∀ x ∈ scope.names, x.2 ≠ .cell)
    (h : ∀ p loose mean mg mb g L' h₁, Fr g L' h₁ (fun y => binds.reverse.lookup y) → News g L' h₁ [(lf, kla_obj name qual params body scope clos pm c' ctv), (c', oc), (cl, ocl), (ls, listOf xs.toArray n)] → Below (Aw hn dp outer gd un) b₀ outer g → (hd.heap_39 w.params).In g → Top p loose mean mg mb g →
      (∀ q ∈ [(lf, kla_obj name qual params body scope clos pm c' ctv), (c', oc), (cl, ocl), (ls, listOf xs.toArray n)], q.1 < L') →
      wpAny (model PR w) ((Aw hn dp outer gd un).deeper (envX qual scope L' lf (.ref c') clos)) (eval body (envX qual scope L' lf (.ref c') clos))
        (fun v s' => Ends s g (fun v' h' => Ψ v' ∧ h'.get? lf = some (kla_obj name qual params body scope clos pm c' ctv) ∧ h'.get? c' = some oc ∧ h'.get? cl = some ocl ∧ h'.get? ls = some (listOf ys.toArray n')) v s')
        (fun _ _ => False)
        { s with heap := h₁, toks := s.toks + binds.length })
    (ret : ∀ v h' tk, Ψ v → Mod [lf, c', cl, ls] s.heap h' → h'.get? lf = some (kla_obj name qual params body scope clos pm c' ctv) → h'.get? c' = some oc → h'.get? cl = some ocl → h'.get? ls = some (listOf ys.toArray n') → R (.ok (.ret v)) { s with heap := h', toks := tk }) :
    codeAny (model PR w) (Aw hn dp outer gd un) (.call (.ref lf) args) R s :=
  enterE (fps := [(lf, kla_obj name qual params body scope clos pm c' ctv), (c', oc), (cl, ocl), (ls, listOf xs.toArray n)]) G (four' e1 e2 e3 e4) (.head _) ⟨c', oc, vs0, t0, rfl, e2, hdt, hq⟩ hroom hbind hloc h
    (fun v h' tk hm ⟨a, b, c, d, e⟩ => ret v h' tk a hm b c d e) hco hgen hk hcell
theorem lexer_end {w : World} {s : Shared} {g h' : Heap} {L : Addr} {m : Str → Option Value} {news : List (Addr × Obj)} {tk : Nat} {txt : List Nat}
    {lx dx st ds lf c' cl ls pb pbs : Addr} {oc ocl : Obj} {name qual : Str} {params : Arguments} {body : PySem.Expr} {scope : Scope} {clos : List (Str × Addr)} {pm ctv : Value} {t1 t2 t3 t4 wt u1 u2 u3 u4 u5 tl tx tw lt : Tok} {vs : List Value} {n np : Nat} {ps : Array Value}
    (F : Fr g L h' m) (N : News g L h' news) (hg : ∀ b o, s.heap.get? b = some o → b ∉ [(100, tabObj #[])].map (·.1) → g.get? b = some o)
    (m1 : (lx, instObj 69 dx) ∈ news) (m2 : (dx, dictOf (lexD w t1 t2 t3 t4 1 lt (.ref st) wt pb) 4) ∈ news) (m3 : (st, instObj 69 ds) ∈ news) (m4 : (ds, dictOf (rdD w u1 u2 u3 u4 u5 tl tx tw pbs lf) 5) ∈ news)
    (m5 : (lf, kla_obj name qual params body scope clos pm c' ctv) ∈ news) (m6 : (c', oc) ∈ news) (m7 : (cl, ocl) ∈ news) (m8 : (ls, listOf vs.toArray n) ∈ news) (m9 : (pb, listOf ([] : List Value).toArray np) ∈ news) (m0 : (100, tabObj ps) ∈ news)
    (hc : clos = [(S "signs", cl)])
    (o0 : @LT.lt Nat _ 100 cl) (o1 : @LT.lt Nat _ cl ls) (o2 : @LT.lt Nat _ ls ds) (o3 : @LT.lt Nat _ ds st) (o4 : @LT.lt Nat _ st c') (o5 : @LT.lt Nat _ c' lf) (o6 : @LT.lt Nat _ lf dx) (o7 : @LT.lt Nat _ dx lx) (o8 : @LT.lt Nat _ lx pb)
    (hv : StrsAre vs (sgn txt)) (RS : RdSpec w lf c' cl ls (kla_obj name qual params body scope clos pm c' ctv) oc ocl) :
    Ends s g (fun v' h' => Ex6 fun P lt vs n np ps => An5 (v' = .ref (P : LX).lx) (LXok w P) ((∀ q ∈ lexL w P 1 lt vs n [] np, h'.get? q.1 = some q.2 ∧ s.heap.get? q.1 = none)) (StrsAre vs (sgn txt)) (h'.get? 100 = some (tabObj ps))) (.ref lx) { s with heap := h', toks := tk } := by
  refine Ends.of F ⟨{ lx := lx, dx := dx, st := st, ds := ds, lf := lf, c' := c', cl := cl, ls := ls, pb := pb, pbs := pbs, oc := oc, ocl := ocl, kc := .type "function", kd := none, fd := kla_fn name qual params body scope clos pm (.ref c') ctv, ksl := #[], t1 := t1, t2 := t2, t3 := t3, t4 := t4, wt := wt, u1 := u1, u2 := u2, u3 := u3, u4 := u4, u5 := u5, tl := tl, tx := tx, tw := tw },
    lt, vs, n, np, ps, rfl, ⟨RS, o1, o2, o3, o4, o5, o6, o7, o8⟩, ?_, hv, (N _ m0).1⟩
  have key : ∀ q ∈ news, @LT.lt Nat _ 100 q.1 → h'.get? q.1 = some q.2 ∧ s.heap.get? q.1 = none := fun q hq hlt => by
    refine ⟨(N q hq).1, ?_⟩
    cases e : s.heap.get? q.1 with
    | none => rfl
    | some o =>
      have := hg _ _ e (fun y => by
        simp only [List.map_cons, List.map_nil, List.mem_cons, List.not_mem_nil, or_false] at y
        rw [y] at hlt; exact absurd hlt (Nat.lt_irrefl _))
      rw [(N q hq).2.2] at this; cases this
  intro q hq
  simp only [List.mem_cons, List.not_mem_nil, or_false] at hq
  rcases hq with rfl | rfl | rfl | rfl | rfl | rfl | rfl | rfl | rfl
  · exact key _ m1 (by show @LT.lt Nat _ 100 lx; omega)
  · exact key _ m2 (by show @LT.lt Nat _ 100 dx; omega)
  · exact key _ m3 (by show @LT.lt Nat _ 100 st; omega)
  · exact key _ m4 (by show @LT.lt Nat _ 100 ds; omega)
  · exact key _ m5 (by show @LT.lt Nat _ 100 lf; omega)
  · exact key _ m6 (by show @LT.lt Nat _ 100 c'; omega)
  · exact key _ m7 (by show @LT.lt Nat _ 100 cl; omega)
  · exact key _ m8 (by show @LT.lt Nat _ 100 ls; omega)
  · exact key _ m9 (by show @LT.lt Nat _ 100 pb; omega)
local macro_rules | `(tactic| walk_at "compareOp NotEq ref ref") => `(tactic| (k_here; k_dflt (first
  | (refine neCons (by k_asm) (by k_mem) (by k_mem) (by simp only [units_deeper]; (try dsimp only); omega) ?_; k_whole)
  | (refine neNil (by k_asm) (by k_mem) (by k_mem) (by simp only [units_deeper]; (try dsimp only); omega) ?_; k_whole))))
local macro_rules | `(tactic| walk_at "call builtin:list.pop") => `(tactic| (k_here; k_dflt ((with_reducible show wpAny _ _ (call (Value.builtin _) [Value.ref _, Value.int 0 _]) _ _ _); refine popFirst (by k_asm) (by k_asm) (by k_upd) (by omega) ?_); (intro h' F' N')))
local macro_rules | `(tactic| k_room) => `(tactic| ((try simp only [depth_under_make, depth_under_kw, depth_in1, depth_deeper, depth_caller]); (try dsimp only); omega))
theorem lexer_c {w : World} {b₀ : Heap} {dp un : Nat} {gd : Option (List Code)} {outer : List Env} {s : Shared} {R : Result → Shared → Prop} {txt : List Nat} {u : Tok}
    (G : Gd w b₀ outer s.heap [100]) (h100 : s.heap.get? 100 = some (tabObj #[])) (hlen : txt.length ≤ 1000) (hsm : ∀ c ∈ txt, c < 128) (hdp : dp + 60 < recursionLimit) (hun : un + 300 < cLine)
    (ret : ∀ h' tk P lt vs n np ps, Mod [100] s.heap h' → LXok w P → (∀ q ∈ lexL w P 1 lt vs n [] np, h'.get? q.1 = some q.2 ∧ s.heap.get? q.1 = none) → StrsAre vs (sgn txt) → h'.get? 100 = some (tabObj ps) → R (.ok (.ret (.ref P.lx))) { s with heap := h', toks := tk }) :
    codeAny (model PR w) (Aw none dp outer gd un) (.call (.ref 105) ⟨[.str (ofL txt) u], []⟩) R s := by
  refine' enterC (binds := [(S "text", .str (ofL txt) u)]) (fps := [(100, tabObj #[])]) (Φ := fun v' h' => Ex6 fun P lt vs n np ps => An5 (v' = .ref (P : LX).lx) (LXok w P) ((∀ q ∈ lexL w P 1 lt vs n [] np, h'.get? q.1 = some q.2 ∧ s.heap.get? q.1 = none)) (StrsAre vs (sgn txt)) (h'.get? 100 = some (tabObj ps))) G ?hfp ?ho ?hcd ?hr ?hb ?hl ?hnd ?body ?ret ?c1 ?c2 ?c3
  case ho => k_dflt k_is
  case hcd => k_dflt k_is
  case hr => omega
  case hb => exact BindsTo.of_eq rfl
  case hl => exact rfl
  case hnd => decide +kernel
  case c1 => rfl
  case c2 => rfl
  case c3 => rfl
  · intro q hq; simp only [List.mem_cons, List.not_mem_nil, or_false] at hq; rcases hq with rfl; exact h100
  · intro p loose mean mg mb g L' h₁ tk cells F N Y B X T l1 hg
    k_lt l1
    clear ret
    k_cells Y
    simp only [List.cons_append, List.nil_append] at N
    have C : CodeHd g 104 100 := codeHd_of_K X (by kernel_rfl)
    try dsimp only
    k_steps
    refine' lexer_end ?kF ?kN hg ?m1 ?m2 ?m3 ?m4 ?m5 ?m6 ?m7 ?m8 ?m9 ?m0 ?hc ?o0 ?o1 ?o2 ?o3 ?o4 ?o5 ?o6 ?o7 ?o8 ?hv ?RS
    case kF => assumption
    case kN => assumption
    case m1 => k_dflt k_mem
    case m2 => k_dflt k_mem
    case m3 => k_dflt k_mem
    case m4 => k_dflt k_mem
    case m5 => k_dflt k_mem
    case m6 => k_dflt k_mem
    case hc => k_dflt (exact rfl)
    case m7 => k_dflt k_mem
    case m9 => k_dflt k_mem
    case m0 => k_dflt k_mem
    case hv => assumption
    case m8 => k_dflt k_mem
    case o0 => omega
    case o1 => omega
    case o2 => omega
    case o3 => omega
    case o4 => omega
    case o5 => omega
    case o6 => omega
    case o7 => omega
    case o8 => omega
    case RS =>
      refine ⟨?cons, ?nil⟩
      case cons =>
        intro b₀ hn dp un gd outer s R v vs n t G e1 e2 e3 e4 hz hdp hun ret
        refine' enterL [(S "size", .int 1 t)] (fun v' => v' = v) vs (n + 1) G e1 e2 e3 e4 (by assumption) (by assumption) (by omega) rfl (locs rfl) rfl rfl rfl (by decide) ?bd ?rt
        case rt =>
          rintro v' h' tk rfl hm a b c d
          exact ret h' tk hm a b c d
        case bd =>
          intro p loose mean mg mb g L' h₁ F N B X T l1
          k_lt l1
          try dsimp only
          k_steps
          exact Ends.of (by assumption) ⟨rfl, News.get (by assumption) (by k_mem), News.get (by assumption) (by k_mem), News.get (by assumption) (by k_mem), News.get (by assumption) (by k_mem)⟩
      case nil =>
        intro b₀ hn dp un gd outer s R n t G e1 e2 e3 e4 hdp hun ret
        refine' enterL [(S "size", .int 1 t)] (fun v' => ∃ t', v' = .str (Str.ofString "") t') [] n G e1 e2 e3 e4 (by assumption) (by assumption) (by omega) rfl (locs rfl) rfl rfl rfl (by decide) ?bd2 ?rt2
        case rt2 =>
          rintro v' h' tk ⟨t', rfl⟩ hm a b c d
          exact ret h' tk t' hm a b c d
        case bd2 =>
          intro p loose mean mg mb g L' h₁ F N B X T l1
          k_lt l1
          try dsimp only
          k_steps
          exact Ends.of (by assumption) ⟨⟨_, rfl⟩, News.get (by assumption) (by k_mem), News.get (by assumption) (by k_mem), News.get (by assumption) (by k_mem), News.get (by assumption) (by k_mem)⟩
  · rintro v' h' tk hm ⟨P, lt, vs, n, np, ps, rfl, e1, e2, e3, e4⟩
    exact ret h' tk P lt vs n np ps hm e1 e2 e3 e4
end Mine
end

section
open PySem PySem.W PySem.Calls PyProof.Rows
set_option maxRecDepth 100000
set_option maxHeartbeats 4000000
set_option linter.unusedVariables false
namespace Mine
/-- a def with cells is entered, in the judgement with the caller -/
theorem enterCH {w : World} {b₀ : Heap} {hn : Option Value} {dp un : Nat} {gd : Option (List Code)} {s : Shared} {fps : List (Addr × Obj)}
    {R : Result → Shared → Prop} {name qual : Str} {params : Arguments} {body : List Stmt} {scope : Scope} {dV kV doc pm cdv ct oc : Value} {an od : Option Addr} {osl : Array (Option Value)} {f : Addr} {args : Args} {binds : List (Str × Value)}
    {Φ : Value → Heap → Prop}
    (G : Gd w b₀ [] s.heap (fps.map (·.1))) (hfp : ∀ q ∈ fps, s.heap.get? q.1 = some q.2)
    (ho : s.heap.get? f = some ⟨oc, od, .func (fnOf name qual params body scope dV kV doc pm an cdv ct), osl⟩) (hcd : s.heap.CodeRec cdv qual) (hroom : dp < recursionLimit)
    (hbind : BindsTo s (fnOf name qual params body scope dV kV doc pm an cdv ct) args binds) (hkind : (binds.all fun y => scope.names.lookup y.1 == some .local || scope.names.lookup y.1 == some .cell) = true)
    (hnd : ((cellsFrom 0 scope.names []).map (·.1)).Nodup)
    (h : ∀ p loose mean mg mb g L' h₁ tk cells, b₀.StaysIn g → Fr g L' h₁ (bindL (envOfC qual scope L' f cdv).kindOf binds fun _ => none) → News g L' h₁ (cells ++ fps) → CellsAre (bindC (envOfC qual scope L' f cdv).kindOf binds fun _ => none) (cellsFrom (L' + 1) scope.names []) cells →
      Below (Aw hn dp [] gd un) b₀ [] g → (hd.heap_39 w.params).In g → Top p loose mean mg mb g → (∀ q ∈ fps, q.1 < L') →
      wpH (model PR w) ((Aw hn dp [] gd un).deeper (envOfC qual scope L' f cdv)) (execs body (envOfC qual scope L' f cdv))
        (fun fl s' => Ends s g Φ (match fl with | .ret v => v | _ => .none) s')
        (fun _ _ => False)
        { s with heap := h₁, toks := tk })
    (ret : ∀ v h' tk, Mod (fps.map (·.1)) s.heap h' → Φ v h' → R (.ok (.ret v)) { s with heap := h', toks := tk })
    (hco : scope.isCoroutine = false) (hgen : scope.isGenerator = false) (hk : scope.kind = .function) :
    codeH (model PR w) (Aw hn dp [] gd un) (.call (.ref f) args) R s := by
  obtain ⟨X, ⟨p, loose, mean, mg, mb, T⟩, st, ff, ap⟩ := G
  have nm : ∀ b o, b₀.get? b = some o → b ∉ fps.map (·.1) := fun b o e q => by
    rw [(ap b q).1] at e; cases e
  have st' : b₀.StaysIn (hideAll s.heap (fps.map (·.1))) := fun b o e => hideAll_get _ (st b o e) (nm b o e)
  have X' := X.keeps st'
  have T' := T.keeps st'
  have B : Below (Aw hn dp [] gd un) b₀ [] (hideAll s.heap (fps.map (·.1))) := ⟨rfl, st', funFrames_hideAll ff fun env he a ha => (ap a ha).2 env he⟩
  refine h_function hroom ho rfl hco hgen rfl hcd (hbind _ _ _ _ ?_)
  refine wpAny_newFunctionEnv_cells hk (kindsX hkind _) fun env' he s' x => ?_
  subst he
  refine ⟨(T.keeps st).nolimit.keeps x.toInCall.keep, h_func ?_⟩
  obtain ⟨h₁, tk, rfl, _⟩ := x.done
  have hk₁ := x.toInCall.keep
  obtain ⟨cells, NC, Y⟩ := Cl.news (h₀ := s.heap) (Nat.le_refl _) fun n c hm => ⟨x.cell n c (lookup_of_mem_nodup (cellsFrom_names scope.names 0 (s.heap.objs.size + 1) [] [] rfl ▸ hnd) hm), x.above n c hm⟩
  refine wpH_mono (h p loose mean mg mb (hideAll s.heap (fps.map (·.1))) s.heap.objs.size h₁ tk cells st' ⟨x.toInCall.ns, fun b o e => hk₁ b o (of_hideAll _ e), Nat.le_of_eq (hideAll_size _ _)⟩ (fun q hq => ?_) Y B X' T' (fun q hq => Heap.lt_size (hfp q hq))) (fun fl s' hl => ?_) fun _ _ y => y
  · rcases List.mem_append.mp hq with hq | hq
    · refine ⟨(NC q hq).1, (NC q hq).2.1, ?_⟩
      cases q' : (hideAll s.heap (fps.map (·.1))).get? q.1 with
      | none => rfl
      | some o => have := of_hideAll _ q'; rw [(NC q hq).2.2] at this; cases this
    · exact ⟨hk₁ _ _ (hfp q hq), Nat.ne_of_lt (Heap.lt_size (hfp q hq)), hideAll_none _ (List.mem_map_of_mem hq)⟩
  · obtain ⟨h', tk, rfl, sg, hΦ⟩ := hl.out
    exact ret _ _ _ (fun b o e hb => sg b o (hideAll_get _ e hb)) hΦ
theorem gdE {w : World} {b₀ g h : Heap} {hn : Option Value} {dp un : Nat} {gd : Option (List Code)} {outer : List Env} {h₁ : Heap} {fp fp0 : List Addr} {L : Addr} {m : Str → Option Value} {env : Env} {news : List (Addr × Obj)}
    (G : Gd w b₀ outer h₁ fp0) (B : Below (Aw hn dp outer gd un) b₀ outer g) (F : Fr g L h m) (N : News g L h news) (hfp : ∀ a ∈ fp, ∃ o, (a, o) ∈ news) (hf : env.frame = some L) (hk : env.scope.kind = .function) : Gd w b₀ (env :: outer) h fp := by
  have P := pushX (env := env) B F hf hk
  refine ⟨G.X, G.T, P.stays, P.frames, fun a ha => ?_⟩
  obtain ⟨o, ho⟩ := hfp a ha
  have z := N _ ho
  refine ⟨?_, fun env' he => ?_⟩
  · cases q : b₀.get? a with
    | none => rfl
    | some o' => have := B.stays a o' q; rw [show g.get? a = none from z.2.2] at this; cases this
  · rcases List.mem_cons.mp he with rfl | he
    · intro e; rw [hf] at e; exact z.2.1 (Option.some.inj e).symm
    · intro e
      have hm : a ∈ frA outer := List.mem_filterMap.mpr ⟨env', he, e⟩
      obtain ⟨o', ho', _⟩ := (B.frames.mem hm).2
      rw [show g.get? a = none from z.2.2] at ho'; cases ho'
/-- what a call's footprint gives back -/
theorem news_fps {g h h' : Heap} {L : Addr} {fp : List Addr} {news fps' : List (Addr × Obj)} (N : News g L h news) (hm : Mod fp h h') (ha : ∀ q ∈ fps', ∃ o, (q.1, o) ∈ news) (hs : ∀ q ∈ fps', h'.get? q.1 = some q.2) :
    ∀ news', (∀ q ∈ news', (q ∈ news ∧ q.1 ∉ fp) ∨ q ∈ fps') → News g L h' news' := fun news' hn q hq => by
  rcases hn q hq with ⟨h1, h2⟩ | h1
  · exact ⟨hm _ _ (N q h1).1 h2, (N q h1).2⟩
  · obtain ⟨o, ho⟩ := ha q h1
    exact ⟨hs q h1, (N _ ho).2⟩
abbrev lexF (P : LX) : List Addr := lexA P ++ [P.pb]
section
variable {w : World} {b₀ g : Heap} {dp un : Nat} {gd : Option (List Code)} {outer : List Env} {h₁ : Heap} {fp0 : List Addr} {L : Addr} {m : Str → Option Value} {env : Env} {s : Shared} {news news' : List (Addr × Obj)} {E : Value → Shared → Prop} {Q : Value → Shared → Prop} {x : Nat} {u : Tok}
theorem wordE (G : Gd w b₀ outer h₁ fp0) (B : Below (Aw none dp outer gd un) b₀ outer g) (F : Fr g L s.heap m) (N : News g L s.heap news) (hf : env.frame = some L) (hk : env.scope.kind = .function) (hx : x < 1536) (hdp : dp + 12 < recursionLimit) (hun : un + 110 < cLine)
    (h : ∀ h' tk t, Fr g L h' m → News g L h' news → Q (.str (ofL (wordL x)) t) { s with heap := h', toks := tk }) :
    wpAny (model PR w) ((Aw none dp outer gd un).deeper env) (call (.ref 93) [.int (x : Int) u]) Q E s := by
  refine wpAny_call (word_c (dp := dp + 1) (un := un + 3) (gdE G B F N (fun _ q => absurd q List.not_mem_nil) hf hk) hx (by omega) (by omega) fun h' tk t hm => ?_)
  exact h h' tk t (fr_mod F N (fun _ q => absurd q List.not_mem_nil) hm) (news_mod N hm fun q hq => .inl ⟨hq, List.not_mem_nil⟩)
theorem writtenE (G : Gd w b₀ outer h₁ fp0) (B : Below (Aw none dp outer gd un) b₀ outer g) (F : Fr g L s.heap m) (N : News g L s.heap news) (hf : env.frame = some L) (hk : env.scope.kind = .function) (hx : x < 1536) (hdp : dp + 32 < recursionLimit) (hun : un + 210 < cLine)
    (h : ∀ h' tk t, Fr g L h' m → News g L h' news → Q (.str (ofL (writL x)) t) { s with heap := h', toks := tk }) :
    wpAny (model PR w) ((Aw none dp outer gd un).deeper env) (call (.ref 98) [.int (x : Int) u]) Q E s := by
  refine wpAny_call (written_c (dp := dp + 1) (un := un + 3) (gdE G B F N (fun _ q => absurd q List.not_mem_nil) hf hk) hx (by omega) (by omega) fun h' tk t hm => ?_)
  exact h h' tk t (fr_mod F N (fun _ q => absurd q List.not_mem_nil) hm) (news_mod N hm fun q hq => .inl ⟨hq, List.not_mem_nil⟩)
theorem one {P : Addr → Prop} {a : Addr} (h : P a) : ∀ x ∈ [a], P x := fun x hx => by
  simp only [List.mem_cons, List.not_mem_nil, or_false] at hx
  rw [hx]; exact h
theorem lexerE {txt : List Nat} (G : Gd w b₀ outer h₁ fp0) (B : Below (Aw none dp outer gd un) b₀ outer g) (F : Fr g L s.heap m) (N : News g L s.heap news) (hf : env.frame = some L) (hk : env.scope.kind = .function) (m1 : (100, tabObj #[]) ∈ news) (hlen : txt.length ≤ 1000) (hsm : ∀ c ∈ txt, c < 128)
    (hdp : dp + 62 < recursionLimit) (hun : un + 310 < cLine)
    (h : ∀ h' tk P lt vs n np ps, Fr g L h' m → LXok w P → (∀ q ∈ news, ∀ r ∈ lexL w P 1 lt vs n [] np, q.1 ≠ r.1) → (∀ news', (∀ q ∈ news', (q ∈ news ∧ q.1 ≠ 100) ∨ q = (100, tabObj ps) ∨ q ∈ lexL w P 1 lt vs n [] np) → News g L h' news') → StrsAre vs (sgn txt) → Q (.ref P.lx) { s with heap := h', toks := tk }) :
    wpAny (model PR w) ((Aw none dp outer gd un).deeper env) (call (.ref 105) [.str (ofL txt) u]) Q E s := by
  have hfp : ∀ a ∈ [(100 : Addr)], ∃ o, (a, o) ∈ news := one ⟨_, m1⟩
  refine wpAny_call (lexer_c (dp := dp + 1) (un := un + 3) (gdE G B F N hfp hf hk) (N _ m1).1 hlen hsm (by omega) (by omega) fun h' tk P lt vs n np ps hm K hl hv h100 => ?_)
  refine h h' tk P lt vs n np ps (fr_mod F N hfp hm) K (fun q hq r hr e => ?_) (fun news' hn q hq => ?_) hv
  · have := (N q hq).1; rw [e, (hl r hr).2] at this; cases this
  · rcases hn q hq with ⟨h1, h2⟩ | rfl | h1
    · exact ⟨hm _ _ (N q h1).1 (by simpa using h2), (N q h1).2⟩
    · exact ⟨h100, (N _ m1).2⟩
    · have z := hl q h1
      refine ⟨z.1, fun e => ?_, ?_⟩
      · obtain ⟨oL, _, _, hLo, _⟩ := F.ns
        rw [← show q.1 = L from e, z.2] at hLo; cases hLo
      · cases y : g.get? q.1 with
        | none => rfl
        | some o => have := F.keep _ o y; rw [z.2] at this; cases this
theorem gtE {P : LX} {ln : Int} {lt : Tok} {vs : List Value} {n np : Nat} {txt t rest : List Nat} (K : LXok w P) (G : Gd w b₀ outer h₁ fp0) (B : Below (Aw none dp outer gd un) b₀ outer g) (F : Fr g L s.heap m) (N : News g L s.heap news) (hf : env.frame = some L) (hk : env.scope.kind = .function)
    (hs : ∀ q ∈ lexL w P ln lt vs n [] np, q ∈ news) (hT : TokR txt t rest) (hvs : StrsAre vs (sgn txt)) (hlen : txt.length < 900) (hln : 0 ≤ ln ∧ ln < 900000) (hdp : dp + 62 < recursionLimit) (hun : un + 310 < cLine)
    (h : ∀ h' tk ln' lt' vs' n' tt, Fr g L h' m → (∀ news', (∀ q ∈ news', (q ∈ news ∧ q.1 ∉ lexF P) ∨ q ∈ lexL w P ln' lt' vs' n' [] np) → News g L h' news') → 0 ≤ ln' → ln' + (nls rest : Int) = ln + (nls txt : Int) → StrsAre vs' (sgn rest) → Q (.str (ofL t) tt) { s with heap := h', toks := tk }) :
    wpAny (model PR w) ((Aw none dp outer gd un).deeper env) (call (.ref 59) [.ref P.lx]) Q E s := by
  have hfp : ∀ a ∈ lexF P, ∃ o, (a, o) ∈ news := fun a ha => by
    have : a ∈ (lexL w P ln lt vs n [] np).map (·.1) := ha
    obtain ⟨q, hq, rfl⟩ := List.mem_map.mp this
    exact ⟨q.2, hs q hq⟩
  refine wpAny_call (gt_c (dp := dp + 1) (un := un + 3) K (gdE G B F N hfp hf hk) (fun q hq => (N q (hs q hq)).1) hT hvs hlen hln (by omega) (by omega) fun h' tk ln' lt' vs' n' tt hm hl h0 hc hv => ?_)
  exact h h' tk ln' lt' vs' n' tt (fr_mod F N hfp hm) (news_fps N hm (fun q hq => hfp q.1 (List.mem_map_of_mem (f := (·.1)) hq)) hl) h0 hc hv
theorem three' {g h : Heap} {news : List (Addr × Obj)} {a b c : Addr} {oa ob oc : Obj} (m1 : (a, oa) ∈ news) (m2 : (b, ob) ∈ news) (m3 : (c, oc) ∈ news) : ∀ x ∈ [a, b, c], ∃ o, (x, o) ∈ news := three ⟨_, m1⟩ ⟨_, m2⟩ ⟨_, m3⟩
theorem getE {lx dx pb : Addr} {t1 t2 t3 t4 : Tok} {ln : Int} {lt : Tok} {st : Value} {wt : Tok} {xs : List Value} {n : Nat} {v : Value} (G : Gd w b₀ outer h₁ fp0) (B : Below (Aw none dp outer gd un) b₀ outer g) (F : Fr g L s.heap m) (N : News g L s.heap news) (hf : env.frame = some L) (hk : env.scope.kind = .function)
    (m1 : (lx, instObj 69 dx) ∈ news) (m2 : (dx, dictOf (lexD w t1 t2 t3 t4 ln lt st wt pb) 4) ∈ news)
    (U : Upd pb (listOf (v :: xs).toArray n) (listOf xs.toArray (n + 1)) news news') (n1 : lx ≠ dx) (n2 : lx ≠ pb) (n3 : dx ≠ pb) (hz : xs.length < 1000) (hdp : dp + 11 < recursionLimit) (hun : un + 103 < cLine)
    (h : ∀ h' tk, Fr g L h' m → News g L h' news' → Q v { s with heap := h', toks := tk }) :
    wpAny (model PR w) ((Aw none dp outer gd un).deeper env) (call (.ref 59) [.ref lx]) Q E s := by
  have m3 : (pb, listOf (v :: xs).toArray n) ∈ news := by obtain ⟨pre, post, rfl, _⟩ := U.split; simp
  have hfp : ∀ a ∈ [lx, dx, pb], ∃ o, (a, o) ∈ news := three ⟨_, m1⟩ ⟨_, m2⟩ ⟨_, m3⟩
  refine wpAny_call (get_pop (dp := dp + 1) (un := un + 3) (gdE G B F N hfp hf hk) (N _ m1).1 (N _ m2).1 (N _ m3).1 n1 n2 n3 hz (by omega) (by omega) fun h' tk hm e1 e2 e3 => ?_)
  exact h h' tk (fr_mod F N hfp hm) (upd_three N m1 m2 U n2 n3 hm e1 e2 e3)
theorem pushE {lx dx pb : Addr} {t1 t2 t3 t4 : Tok} {ln : Int} {lt : Tok} {st : Value} {wt : Tok} {xs : List Value} {n : Nat} {v : Value} (G : Gd w b₀ outer h₁ fp0) (B : Below (Aw none dp outer gd un) b₀ outer g) (F : Fr g L s.heap m) (N : News g L s.heap news) (hf : env.frame = some L) (hk : env.scope.kind = .function)
    (m1 : (lx, instObj 69 dx) ∈ news) (m2 : (dx, dictOf (lexD w t1 t2 t3 t4 ln lt st wt pb) 4) ∈ news)
    (U : Upd pb (listOf xs.toArray n) (listOf (xs ++ [v]).toArray (n + 1)) news news') (n1 : lx ≠ dx) (n2 : lx ≠ pb) (n3 : dx ≠ pb) (hz : xs.length < 1000) (hdp : dp + 11 < recursionLimit) (hun : un + 103 < cLine)
    (h : ∀ h' tk, Fr g L h' m → News g L h' news' → Q .none { s with heap := h', toks := tk }) :
    wpAny (model PR w) ((Aw none dp outer gd un).deeper env) (call (.ref 66) [.ref lx, v]) Q E s := by
  have m3 : (pb, listOf xs.toArray n) ∈ news := by obtain ⟨pre, post, rfl, _⟩ := U.split; simp
  have hfp : ∀ a ∈ [lx, dx, pb], ∃ o, (a, o) ∈ news := three ⟨_, m1⟩ ⟨_, m2⟩ ⟨_, m3⟩
  refine wpAny_call (push_c (dp := dp + 1) (un := un + 3) (gdE G B F N hfp hf hk) (N _ m1).1 (N _ m2).1 (N _ m3).1 n1 n2 n3 (by simpa using hz) (by omega) (by omega) fun h' tk hm e1 e2 e3 => ?_)
  exact h h' tk (fr_mod F N hfp hm) (upd_three N m1 m2 U n2 n3 hm e1 e2 (by simpa using e3))
theorem tillE {dp un : Nat} {gd : Option (List Code)} {h₁ : Heap} {fp0 : List Addr} {lx dx pb : Addr} {t1 t2 t3 t4 : Tok} {ln : Int} {lt : Tok} {st : Value} {wt : Tok} {vs : List Value} {n : Nat} {late : Nat} {u : Tok} {hand : List Nat} {rest : List (List Nat)}
    (G : Gd w b₀ [] h₁ fp0) (B : Below (Aw none dp [] gd un) b₀ [] g) (F : Fr g L s.heap m) (N : News g L s.heap news) (hf : env.frame = some L) (hk : env.scope.kind = .function)
    (m1 : (lx, instObj 69 dx) ∈ news) (m2 : (dx, dictOf (lexD w t1 t2 t3 t4 ln lt st wt pb) 4) ∈ news) (m3 : (pb, listOf vs.toArray n) ∈ news) (n1 : lx ≠ dx) (n2 : lx ≠ pb) (n3 : dx ≠ pb)
    (hvs : StrsAre vs ((hand :: rest).map wordS ++ [ofL []])) (hne : ∀ x ∈ hand :: rest, x ≠ []) (hlen : hand.length + rest.flatten.length ≤ 100) (hrl : rest.length ≤ 100) (hlate : late < 64) (hdp : dp + 62 < recursionLimit) (hun : un + 310 < cLine)
    (h : ∀ h' tk vs' n' W, Fr g L h' m → (∀ news', (∀ q ∈ news', (q ∈ news ∧ q.1 ∉ [lx, dx, pb]) ∨ q ∈ [(lx, instObj 69 dx), (dx, dictOf (lexD w t1 t2 t3 t4 ln lt st wt pb) 4), (pb, listOf (vs' : List Value).toArray n')]) → News g L h' news') →
      StrsAre vs' (W.map wordS ++ [ofL []]) → Till (hand :: rest) late W → Q .none { s with heap := h', toks := tk }) :
    wpH (model PR w) ((Aw none dp [] gd un).deeper env) (call (.ref 119) [.ref lx, .int (late : Int) u]) Q E s := by
  have hfp : ∀ a ∈ [lx, dx, pb], ∃ o, (a, o) ∈ news := three ⟨_, m1⟩ ⟨_, m2⟩ ⟨_, m3⟩
  have hfl : frA (env :: []) = [L] := by unfold frA; rw [List.filterMap_cons, hf]; rfl
  refine wpH_call (till_c (dp := dp + 1) (un := un + 3) (gdE G B F N hfp hf hk) (N _ m1).1 (N _ m2).1 (N _ m3).1 n1 n2 n3 hvs hne hlen hrl hlate (by omega) (by omega) fun h' tk vs' n' W hm e1 e2 e3 hv hT => ?_)
  have notin : ∀ b o, g.get? b = some o → b ∉ [lx, dx, pb] := fun b o e q => by obtain ⟨o', ho⟩ := hfp b q; rw [show g.get? b = none from (N _ ho).2.2] at e; cases e
  refine h h' tk vs' n' W ?_ (fun news' hn q hq => ?_) hv hT
  · obtain ⟨oL, es, ep, hLo, r⟩ := F.ns
    obtain ⟨sl, hsl⟩ := hm.frs L (by rw [hfl]; exact .head _) oL hLo
    refine ⟨⟨_, es, ep, hsl, r⟩, fun b o e => hm.keep b o (F.keep b o e) (notin b o e) (fun q => ?_), F.above⟩
    rw [hfl] at q
    rw [List.mem_singleton.mp q] at e
    exact absurd (Nat.lt_of_lt_of_le (Heap.lt_size e) F.above) (Nat.lt_irrefl _)
  · rcases hn q hq with ⟨h1, h2⟩ | h1
    · refine ⟨hm.keep _ _ (N q h1).1 h2 (fun y => ?_), (N q h1).2⟩
      rw [hfl] at y
      exact (N q h1).2.1 (List.mem_singleton.mp y)
    · simp only [List.mem_cons, List.not_mem_nil, or_false] at h1
      rcases h1 with rfl | rfl | rfl
      · exact ⟨e1, (N _ m1).2⟩
      · exact ⟨e2, (N _ m2).2⟩
      · exact ⟨e3, (N _ m3).2⟩
end
end Mine
end

section
open PySem PySem.W PySem.Calls PyProof.Rows PyProof.Rows.LCg
set_option maxRecDepth 100000
set_option maxHeartbeats 4000000
set_option linter.unusedVariables false
namespace Mine
section
variable {w : World} {A : Around} {s : Shared} {h₀ : Heap} {L : Addr} {m : Str → Option Value} {env : Env}
/-- a comprehension's turns by what holds between them -/
theorem rest_of {elt : PySem.Expr} {x : Str} {scope : Scope} {cl : List (Str × Addr)} {S : List (Addr × Obj) → Prop} {P : Nat → Value → Prop} {Fin : List Value → List (Addr × Obj) → Prop} (J : Nat → List Value → List (Addr × Obj) → Prop) {n : Nat}
    (step : ∀ i ys news, i < n → J i ys news → ∀ v I oI C oC D m₂ h tk E', P i v → NsObj oC m₂ → m₂ x = some v → Fr h₀ L h m → News h₀ L h ((I, oI) :: (C, oC) :: (D, lst ys) :: news) → Off3 I C D news → ((@Ne Nat I C) ∧ (@Ne Nat I D) ∧ (@Ne Nat C D)) →
      wpAny (model PR w) A (eval elt (compEnvC scope cl C env)) (CompEnd h₀ L m { s with heap := h, toks := tk } I oI C oC D (lst ys) S (fun y news' => J (i + 1) (ys ++ [y]) news')) E' { s with heap := h, toks := tk })
    (fin : ∀ ys news, J n ys news → Fin ys news) : ∀ k i ys news, i + k = n → J i ys news → CompRest PR w A h₀ L m env elt x scope cl s S P Fin k i ys news
  | 0, i, ys, news, hk, hJ => CompRest.zero (fin _ _ (by have : i = n := by omega
                                                         exact this ▸ hJ))
  | k + 1, i, ys, news, hk, hJ => CompRest.succ fun v I oI C oC D m₂ h tk E' hP hC hx F N off ne => by
    refine wpAny_mono (step i ys news (by omega) hJ v I oI C oC D m₂ h tk E' hP hC hx F N off ne) (fun y s₂ h₂ => ?_) fun _ _ e => e
    obtain ⟨h', tk', news', e, F', N', off', hS, hr⟩ := h₂
    exact ⟨h', tk', news', e, F', N', off', hS, rest_of J step fin k (i + 1) _ _ (by omega) hr⟩
end
/-- a goal that the walk leaves alone -/
def Hold (P : Prop) : Prop := P
theorem hold {P : Prop} (h : Hold P) : P := h
theorem unhold {P : Prop} (h : P) : Hold P := h
theorem ints_at : ∀ {vs : List Value} {ns : List Nat}, PyProof.Rows.IntsAre vs (ns.map Int.ofNat) → ∀ {i : Nat} {v : Value}, vs[i]? = some v → ∃ x t, ns[i]? = some x ∧ v = .int (x : Int) t
  | _, [], .nil, i, v, h => by simp at h
  | _, n :: ns, .cons _ t a, 0, v, h => by
    simp at h
    exact ⟨n, t, by simp, h.symm⟩
  | _, n :: ns, .cons _ t a, i + 1, v, h => by
    obtain ⟨x, t', h1, h2⟩ := ints_at a (i := i) (v := v) (by simpa using h)
    exact ⟨x, t', by simpa using h1, h2⟩
theorem ints_len' {vs : List Value} {ns : List Nat} (h : PyProof.Rows.IntsAre vs (ns.map Int.ofNat)) : vs.length = ns.length := by
  have := h.length; simpa using this
theorem strs_snoc {ys : List Value} {ns : List Nat} {f : Nat → Str} {i x : Nat} {t : Tok} (h : StrsAre ys ((ns.take i).map f)) (hx : ns[i]? = some x) : StrsAre (ys ++ [.str (f x) t]) ((ns.take (i + 1)).map f) := by
  rw [List.take_add_one, hx, List.map_append]
  exact h.append (.cons .nil)
/-- words to be read off a text -/
inductive Rd : List Nat → List (List Nat) → Prop
  | nil : Rd [] []
  | cons {R t R' : List Nat} {ts : List (List Nat)} : TokR R t R' → Rd R' ts → Rd R (t :: ts)
theorem inB_len {a b c : List Nat} (h : InB a b c) : c.length ≤ a.length := by
  induction h with
  | stop _ => simp
  | esc _ ih => simp; omega
  | plain _ _ _ _ ih => simp; omega
theorem inQ_len {a b c : List Nat} (h : InQ a b c) : c.length ≤ a.length := by
  induction h with
  | stop => simp
  | esc _ ih => simp; omega
  | plain _ _ _ ih => simp; omega
theorem tok_len {a b c : List Nat} (h : TokR a b c) : c.length ≤ a.length := by
  induction h with
  | fin => simp
  | skip _ _ ih => simp; omega
  | quo h => have := inQ_len h; simp; omega
  | esc h => have := inB_len h; simp; omega
  | plain _ _ _ _ h => have := inB_len h; simp; omega
theorem esc_inB {f : Nat → List Nat} (hf : ∀ c, f c = [92, c] ∨ (f c = [c] ∧ isWs c = false ∧ c ≠ 92 ∧ c < 128)) (g : Nat) (hg : isWs g = true) (r : List Nat) : ∀ xs : List Nat, InB (xs.flatMap f ++ (g :: r)) xs r
  | [] => .stop hg
  | c :: xs => by
    have ih := esc_inB hf g hg r xs
    rw [List.flatMap_cons, List.append_assoc]
    rcases hf c with h | ⟨h, h1, h2, h3⟩
    · rw [h]; exact .esc ih
    · rw [h]; exact .plain h1 h2 h3 ih
theorem esc_inB' {f : Nat → List Nat} (g : Nat) (hg : isWs g = true) (r : List Nat) : ∀ xs : List Nat, (∀ c ∈ xs, f c = [92, c] ∨ (f c = [c] ∧ isWs c = false ∧ c ≠ 92 ∧ c < 128)) → InB (xs.flatMap f ++ (g :: r)) xs r
  | [], _ => .stop hg
  | c :: xs, hf => by
    have ih := esc_inB' g hg r xs fun d hd => hf d (.tail _ hd)
    rw [List.flatMap_cons, List.append_assoc]
    rcases hf c (.head _) with h | ⟨h, h1, h2, h3⟩
    · rw [h]; exact .esc ih
    · rw [h]; exact .plain h1 h2 h3 ih
theorem esc_inQ (r : List Nat) : ∀ xs : List Nat, InQ (xs.flatMap (escN 34) ++ (34 :: r)) xs r
  | [] => .stop
  | c :: xs => by
    have ih := esc_inQ r xs
    rw [List.flatMap_cons, List.append_assoc]
    unfold escN
    split
    · exact .esc ih
    · rename_i h
      exact .plain (fun e => h (.inl e)) (fun e => h (.inr e)) ih
theorem gap_ws (x : Nat) : isWs (gapN x) = true := by unfold gapN; split <;> rfl
theorem word_plain (x : Nat) : ∀ c ∈ wordL x, c < 128 ∧ (isWs c = true → c = 32) := by
  have key : ∀ a : Fin 16, ∀ c ∈ partN a.val, c < 128 ∧ (isWs c = true → c = 32) := by decide +kernel
  intro c hc
  unfold wordL at hc
  rcases List.mem_cons.mp hc with rfl | hc
  · rcases sep_cases x with h | h | h | h <;> rw [h] <;> decide
  · rcases List.mem_append.mp hc with hc | hc
    · unfold noughtN at hc
      split at hc
      · simp at hc; rw [hc]; decide
      · cases hc
    · exact key ⟨x % 16, Nat.mod_lt _ (by decide)⟩ c hc
theorem tok_written (x : Nat) (r : List Nat) : TokR (writL x ++ r) (wordL x) ((if x / 128 % 3 = 2 then [gapN x] else []) ++ r) := by
  have h3 : x / 128 % 3 < 3 := Nat.mod_lt _ (by decide)
  have hs : isWs (sepN x) = false ∧ sepN x ≠ 34 ∧ sepN x ≠ 92 ∧ sepN x ≠ 32 ∧ sepN x < 128 := by rcases sep_cases x with h | h | h | h <;> rw [h] <;> decide
  have hw : wordL x = sepN x :: (noughtN x ++ partN (x % 16)) := rfl
  have hp := word_plain x
  rw [hw] at hp
  unfold writL
  split
  · rename_i h0
    rw [if_neg (by omega), List.nil_append, hw, List.flatMap_cons, List.append_assoc, List.append_assoc]
    have he : escN 32 (sepN x) = [sepN x] := by unfold escN; rw [if_neg (by intro q; rcases q with q | q; exact hs.2.2.2.1 q; exact hs.2.2.1 q)]
    rw [he]
    refine .plain hs.1 hs.2.1 hs.2.2.1 hs.2.2.2.2 (esc_inB' _ (gap_ws x) r _ fun c hc => ?_)
    unfold escN
    split
    · exact .inl rfl
    · rename_i q
      have z := hp c (.tail _ hc)
      refine .inr ⟨rfl, ?_, fun e => q (.inr e), z.1⟩
      cases y : isWs c with
      | false => rfl
      | true => exact absurd (.inl (z.2 y)) q
  · split
    · rw [if_neg (by omega), List.nil_append, hw, List.flatMap_cons, List.append_assoc, List.append_assoc]
      exact .esc (esc_inB' _ (gap_ws x) r _ fun c _ => .inl rfl)
    · rw [if_pos (by omega)]
      have e : [34] ++ (wordL x).flatMap (escN 34) ++ [34] ++ [gapN x] ++ r = 34 :: ((wordL x).flatMap (escN 34) ++ (34 :: ([gapN x] ++ r))) := by simp
      rw [e]
      exact .quo (esc_inQ _ _)
theorem rd_written : ∀ (ns : List Nat) (pre : List Nat), (∀ c ∈ pre, isWs c = true) → Rd (pre ++ (ns.map writL).flatten) (ns.map wordL ++ [[]])
  | [], pre, hp => by
    have key : ∀ pre : List Nat, (∀ c ∈ pre, isWs c = true) → TokR pre [] [] := by
      intro pre
      induction pre with
      | nil => intro _; exact .fin
      | cons c pre ih => intro h; exact .skip (h c (.head _)) (ih fun d hd => h d (.tail _ hd))
    simp only [List.map_nil, List.flatten_nil, List.append_nil, List.nil_append]
    exact .cons (key pre hp) .nil
  | x :: ns, pre, hp => by
    have ih := rd_written ns (if x / 128 % 3 = 2 then [gapN x] else []) (by
      intro c hc
      split at hc
      · simp at hc; rw [hc]; exact gap_ws x
      · cases hc)
    have h1 : TokR (writL x ++ (ns.map writL).flatten) (wordL x) ((if x / 128 % 3 = 2 then [gapN x] else []) ++ (ns.map writL).flatten) := tok_written x _
    have key : ∀ pre : List Nat, (∀ c ∈ pre, isWs c = true) → TokR (pre ++ (writL x ++ (ns.map writL).flatten)) (wordL x) ((if x / 128 % 3 = 2 then [gapN x] else []) ++ (ns.map writL).flatten) := by
      intro pre
      induction pre with
      | nil => intro _; exact h1
      | cons c pre ih => intro h; exact .skip (h c (.head _)) (ih fun d hd => h d (.tail _ hd))
    simp only [List.map_cons, List.flatten_cons, List.cons_append]
    exact .cons (key pre hp) ih
theorem strs_snocL {ys : List Value} {ts : List (List Nat)} {i : Nat} {x : List Nat} {t : Tok} (h : StrsAre ys ((ts.take i).map ofL)) (hx : ts[i]? = some x) : StrsAre (ys ++ [.str (ofL x) t]) ((ts.take (i + 1)).map ofL) := by
  rw [List.take_add_one, hx, List.map_append]
  exact h.append (.cons .nil)
theorem off3_F {I C D : Addr} {w : World} {P : LX} {ln : Int} {lt : Tok} {vs : List Value} {n : Nat} {ps : List Value} {np : Nat} {rest : List (Addr × Obj)} (off : Off3 I C D (lexL w P ln lt vs n ps np ++ rest)) : I ∉ lexF P ∧ C ∉ lexF P ∧ D ∉ lexF P := by
  have h := off.mem
  have key : ∀ a ∈ lexF P, a ≠ I ∧ a ≠ C ∧ a ≠ D := fun a ha => by
    have : a ∈ (lexL w P ln lt vs n ps np).map (·.1) := ha
    obtain ⟨q, hq, rfl⟩ := List.mem_map.mp this
    exact h q (List.mem_append_left _ hq)
  exact ⟨fun hm => (key _ hm).1 rfl, fun hm => (key _ hm).2.1 rfl, fun hm => (key _ hm).2.2 rfl⟩
theorem off3_lex {I C D : Addr} {w : World} {P : LX} {ln ln' : Int} {lt lt' : Tok} {vs vs' : List Value} {n n' : Nat} {ps ps' : List Value} {np np' : Nat} {rest : List (Addr × Obj)} (off : Off3 I C D (lexL w P ln lt vs n ps np ++ rest)) : Off3 I C D (lexL w P ln' lt' vs' n' ps' np' ++ rest) := off
theorem lenK {prog : Program} {w : World} {A : Around} {E : Value → Shared → Prop} {s : Shared} {h₀ : Heap} {L l : Addr} {news : List (Addr × Obj)} {vs : List Value} {k N : Nat} {Q : Value → Shared → Prop} (Ns : News h₀ L s.heap news) (hm : (l, listOf vs.toArray k) ∈ news) (hN : vs.length = N) (hz : N ≤ 1000)
    (h : ∀ t tk, Q (.int (N : Int) t) { s with toks := tk }) : wpAny (model prog w) A (call (.builtin "len") [.ref l]) Q E s := by
  refine Calls.call_len_list (items := vs.toArray) ⟨_, (Ns _ hm).1, rfl, k, rfl⟩ (by simp; omega) ?_
  have e : ((vs.toArray.size : Nat) : Int) = (N : Int) := by simp [hN]
  rw [e]; exact h _ _
theorem range_small {n : Nat} (h : n ≤ 1000) : Builtin.Range.small 0 (n : Int) 1 = true := by
  have key : ∀ a : Fin 1001, Builtin.Range.small 0 ((a.val : Nat) : Int) 1 = true := by decide +kernel
  exact key ⟨n, by omega⟩
theorem range_size {n : Nat} (h : n ≤ 1000) : Builtin.Range.rangeSize 0 (n : Int) 1 = (n : Int) := by
  have key : ∀ a : Fin 1001, Builtin.Range.rangeSize 0 ((a.val : Nat) : Int) 1 = ((a.val : Nat) : Int) := by decide +kernel
  exact key ⟨n, by omega⟩
theorem nameComp {M : Model} {A : Around} {E : Value → Shared → Prop} {s : Shared} {h₀ : Heap} {L C c : Addr} {news : List (Addr × Obj)} {scope : Scope} {cl : List (Str × Addr)} {env : Env} {x : Str} {pos : Pos} {o : Obj} {v : Value} {Q : Value → Shared → Prop} (N : News h₀ L s.heap news)
    (hc : cl.lookup x = some c) (hm : (c, o) ∈ news) (hd : o.data = .cell (some v)) (hk : scope.kind = .function) (hx : (relabel scope env).names.lookup x = some .cell) (hb : (x == ("__debug__" : Str)) = false) (h : Q v s) :
    wpAny M A (eval (.Name x pos) (compEnvC scope cl C env)) Q E s :=
  wpAny_Name (wpAny_loadName_cell (env := compEnvC scope cl C env) hk hx hc ⟨o, (N _ hm).1, hd⟩ h) hb
end Mine
end

section
open PySem PySem.W PySem.Calls PyProof.Rows PyProof.Rows.LCg
set_option maxRecDepth 100000
set_option maxHeartbeats 4000000
set_option linter.unusedVariables false
namespace Mine
theorem ofL_ok {l : List Nat} (h : ∀ c ∈ l, c < 128) : PyData.strOk (ofL l) = true := by
  unfold PyData.strOk
  rw [← Array.all_toList]
  exact List.all_eq_true.mpr fun c hc => by have := h c hc; simp; omega
theorem ofL_oks {ls : List (List Nat)} (h : ∀ l ∈ ls, ∀ c ∈ l, c < 128) : ∀ x ∈ ls.map ofL, PyData.strOk x = true := fun x hx => by
  obtain ⟨l, hl, rfl⟩ := List.mem_map.mp hx
  exact ofL_ok (h l hl)
theorem cnt_count (c : Nat) : ∀ l : List Nat, cnt c l = ((l.count c : Nat) : Int)
  | [] => rfl
  | n :: r => by
    rw [cnt_cons, cnt_count c r, List.count_cons]
    by_cases h : n = c
    · subst h; simp; omega
    · simp [h]
theorem count_nl (T : List Nat) : Txt.count (ofL T) (PySem.Str.ofString "\n") = ((nls T : Nat) : Int) := by
  have e : PySem.Str.ofString "\n" = ⟨#[10]⟩ := by decide +kernel
  rw [e, count_cnt]
  exact cnt_count 10 T
section
variable {prog : Program} {w : World} {A : Around} {E : Value → Shared → Prop} {s : Shared} {h₀ : Heap} {L a b : Addr} {m : Str → Option Value} {news : List (Addr × Obj)} {vs ws : List Value} {k j : Nat} {ns ms : List (List Nat)} {Q : Value → Shared → Prop}
theorem addK (F : Fr h₀ L s.heap m) (N : News h₀ L s.heap news) (ha : (a, listOf vs.toArray k) ∈ news) (hb : (b, listOf ws.toArray j) ∈ news) (hz : vs.length + ws.length ≤ 1000)
    (h : ∀ D h', Fr h₀ L h' m → News h₀ L h' ((D, listOf (vs ++ ws).toArray 0) :: news) → (∀ p ∈ news, p.1 < D) → Q (.ref D) { s with heap := h' }) :
    wpAny (model prog w) A (binaryOp .Add (.ref a) (.ref b)) Q E s :=
  add_lists F N (N.isList ha) (N.isList hb) (fun h' F' N' => h _ h' F' N' fun p hp => Heap.lt_size (N p hp).1) (by have h3 : sizeLine = 16777216 := rfl; omega)
theorem neK (N : News h₀ L s.heap news) (ha : (a, listOf vs.toArray k) ∈ news) (hb : (b, listOf ws.toArray j) ∈ news) (hv : StrsAre vs (ns.map ofL)) (hw : StrsAre ws (ns.map ofL)) (ho : ∀ l ∈ ns, ∀ c ∈ l, c < 128) (hu : A.units + 64 < cLine)
    (h : Q (.bool false) s) : wpAny (model prog w) A (compareOp .NotEq (.ref a) (.ref b)) Q E s := by
  refine ne_strs (N.isList ha) (N.isList hb) hv hw (ofL_oks ho) (ofL_oks ho) hu ?_
  simpa using h
theorem eqK (N : News h₀ L s.heap news) (ha : (a, listOf vs.toArray k) ∈ news) (hb : (b, listOf ws.toArray j) ∈ news) (hv : StrsAre vs (ns.map ofL)) (hw : StrsAre ws (ns.map ofL)) (ho : ∀ l ∈ ns, ∀ c ∈ l, c < 128) (hu : A.units + 64 < cLine)
    (h : Q (.bool true) s) : wpAny (model prog w) A (compareOp .Eq (.ref a) (.ref b)) Q E s := by
  refine eq_strs (N.isList ha) (N.isList hb) hv hw (ofL_oks ho) (ofL_oks ho) hu ?_
  simpa using h
theorem upd_lex {P : LX} {ln : Int} {lt : Tok} {vs : List Value} {n np np' : Nat} {xs ys : List Value} {pre res : List (Addr × Obj)} (K : LXok w P) (hp : ∀ q ∈ pre, q.1 ∉ lexF P) (hr : ∀ q ∈ res, q.1 ∉ lexF P) :
    Upd P.pb (listOf xs.toArray np) (listOf ys.toArray np') (pre ++ (lexL w P ln lt vs n xs np ++ res)) (pre ++ (lexL w P ln lt vs n ys np' ++ res)) := by
  obtain ⟨_, o1, o2, o3, o4, o5, o6, o7, o8⟩ := K
  have hin : P.pb ∈ lexF P := by simp [lexF]
  induction pre with
  | cons p pre ih => exact .tail (fun e => hp p (.head _) (e ▸ hin)) (ih fun q hq => hp q (.tail _ hq))
  | nil =>
    refine .tail ?_ (.tail ?_ (.tail ?_ (.tail ?_ (.tail ?_ (.tail ?_ (.tail ?_ (.tail ?_ (.head fun q hq e => hr q hq (e ▸ hin)))))))))
    all_goals (intro e; replace e : @Eq Nat _ _ := e; dsimp only at e; omega)
theorem off1_F {D : Addr} {P : LX} {ln : Int} {lt : Tok} {vs : List Value} {n np : Nat} {ps : List Value} : ∀ {pre rest : List (Addr × Obj)}, Off1 D (pre ++ (lexL w P ln lt vs n ps np ++ rest)) → D ∉ lexF P
  | p :: pre, rest, h => off1_F (pre := pre) h.2
  | [], rest, h => by
    obtain ⟨h1, h2, h3, h4, h5, h6, h7, h8, h9, _⟩ := h
    simp only [lexF, lexA, List.cons_append, List.nil_append, List.mem_cons, List.not_mem_nil, or_false, not_or]
    exact ⟨fun e => h1 e.symm, fun e => h2 e.symm, fun e => h3 e.symm, fun e => h4 e.symm, fun e => h5 e.symm, fun e => h6 e.symm, fun e => h7 e.symm, fun e => h8 e.symm, fun e => h9 e.symm⟩
theorem lex_ne {P : LX} (K : LXok w P) : P.lx ≠ P.dx ∧ P.lx ≠ P.pb ∧ P.dx ≠ P.pb := by
  obtain ⟨_, o1, o2, o3, o4, o5, o6, o7, o8⟩ := K
  refine ⟨?_, ?_, ?_⟩ <;> (intro e; replace e : @Eq Nat _ _ := e; omega)
theorem lex_part {P : LX} {ln : Int} {lt : Tok} {vs : List Value} {n np np' : Nat} {xs ys : List Value} {res : List (Addr × Obj)} {q : Addr × Obj} (K : LXok w P) (hr : ∀ q ∈ res, q.1 ∉ lexF P) (hq : q ∈ lexL w P ln lt vs n ys np' ++ res) :
    (q ∈ lexL w P ln lt vs n xs np ++ res ∧ q.1 ∉ [P.lx, P.dx, P.pb]) ∨ q ∈ [(P.lx, instObj 69 P.dx), (P.dx, dictOf (lexD w P.t1 P.t2 P.t3 P.t4 ln lt (.ref P.st) P.wt P.pb) 4), (P.pb, listOf ys.toArray np')] := by
  obtain ⟨_, o1, o2, o3, o4, o5, o6, o7, o8⟩ := K
  have q5 := Nat.lt_trans o5 o6
  have q4 := Nat.lt_trans o4 q5
  have q3 := Nat.lt_trans o3 q4
  have q2 := Nat.lt_trans o2 q3
  have q1 := Nat.lt_trans o1 q2
  have q8 := Nat.lt_trans o7 o8
  have no : ∀ {a : Addr}, @LT.lt Nat _ a P.dx → a ∉ [P.lx, P.dx, P.pb] := fun {a} h1 hm => by
    simp only [List.mem_cons, List.not_mem_nil, or_false] at hm
    rcases hm with e | e | e
    · exact absurd (show @Eq Nat a P.lx from e) (Nat.ne_of_lt (Nat.lt_trans h1 o7))
    · exact absurd (show @Eq Nat a P.dx from e) (Nat.ne_of_lt h1)
    · exact absurd (show @Eq Nat a P.pb from e) (Nat.ne_of_lt (Nat.lt_trans h1 q8))
  rcases List.mem_append.mp hq with h | h
  · rcases List.mem_cons.mp h with rfl | h
    · exact .inr (.head _)
    rcases List.mem_cons.mp h with rfl | h
    · exact .inr (.tail _ (.head _))
    rcases List.mem_cons.mp h with rfl | h
    · exact .inl ⟨.tail _ (.tail _ (.head _)), no q4⟩
    rcases List.mem_cons.mp h with rfl | h
    · exact .inl ⟨.tail _ (.tail _ (.tail _ (.head _))), no q3⟩
    rcases List.mem_cons.mp h with rfl | h
    · exact .inl ⟨.tail _ (.tail _ (.tail _ (.tail _ (.head _)))), no o6⟩
    rcases List.mem_cons.mp h with rfl | h
    · exact .inl ⟨.tail _ (.tail _ (.tail _ (.tail _ (.tail _ (.head _))))), no q5⟩
    rcases List.mem_cons.mp h with rfl | h
    · exact .inl ⟨.tail _ (.tail _ (.tail _ (.tail _ (.tail _ (.tail _ (.head _)))))), no q1⟩
    rcases List.mem_cons.mp h with rfl | h
    · exact .inl ⟨.tail _ (.tail _ (.tail _ (.tail _ (.tail _ (.tail _ (.tail _ (.head _))))))), no q2⟩
    · rw [List.mem_singleton.mp h]; exact .inr (.tail _ (.tail _ (.head _)))
  · refine .inl ⟨List.mem_append_right _ h, fun hm => hr q h ?_⟩
    simp only [List.mem_cons, List.not_mem_nil, or_false] at hm
    rcases hm with e | e | e <;> (rw [e]; simp [lexF])
end
theorem starts_len : ∀ W : List (List Nat), (starts W).length = W.length
  | [] => rfl
  | w :: ws => by simp [starts, starts_len ws]
theorem words_le {xs : List Nat} {W : List (List Nat)} (h : cutsOf (codesL xs) = starts W) : W.length ≤ xs.length := by
  have h1 : (cutsOf (codesL xs)).length ≤ (List.range (codesL xs).length).length := List.length_filter_le _ _
  rw [h, starts_len] at h1
  simpa [codesL] using h1
theorem off1_drop {D : Addr} : ∀ {pre rest : List (Addr × Obj)}, Off1 D (pre ++ rest) → Off1 D rest
  | [], _, h => h
  | _ :: pre, _, h => off1_drop (pre := pre) h.2
theorem cutH {α : Type} {M : Model} {A : Around} {E : Value → Shared → Prop} {s : Shared} {t : Sem α} {Q : α → Shared → Prop} (P : α → Shared → Prop) (h1 : ∀ Q : α → Shared → Prop, (∀ a s', P a s' → Q a s') → wpH M A t Q E s) (h2 : ∀ a s', P a s' → Q a s') : wpH M A t Q E s := h1 Q h2
end Mine
end

section
open PySem PySem.Spec PySem.W PySem.Calls PyProof.Rows PyProof.Rows.LCg
set_option maxRecDepth 100000
set_option maxHeartbeats 4000000
set_option linter.unusedVariables false
namespace Mine
structure Apart4 (I C X D : Addr) (news : List (Addr × Obj)) : Prop where
  i : Off1 I ((C, default) :: (X, default) :: (D, default) :: news)
  c : Off1 C ((X, default) :: (D, default) :: news)
  x : Off1 X ((D, default) :: news)
  d : Off1 D news
theorem off1_of {D : Addr} : ∀ {l : List (Addr × Obj)}, (∀ p ∈ l, p.1 ≠ D) → Off1 D l
  | [], _ => trivial
  | _ :: _, h => ⟨h _ List.mem_cons_self, off1_of fun p hp => h p (List.mem_cons_of_mem _ hp)⟩
theorem off1_mem {D : Addr} : ∀ {l : List (Addr × Obj)}, Off1 D l → ∀ p ∈ l, p.1 ≠ D
  | [], _, _, h => nomatch h
  | _ :: _, x, p, h => by
    rcases List.mem_cons.mp h with rfl | h
    · exact x.1
    · exact off1_mem x.2 p h
inductive CTurn (h₀ : Heap) (L : Addr) (m : Str → Option Value) (s : Shared) (l : List (Addr × Obj)) (s' : Shared) : Prop
  | mk (h' : Heap) (tk' : Nat) (e : s' = { s with heap := h', toks := tk' }) (F : Fr h₀ L h' m) (N : News h₀ L h' l) : CTurn h₀ L m s l s'
def CellTurns (prog : Program) (w : World) (A : Around) (h₀ : Heap) (L : Addr) (m : Str → Option Value) (env : Env) (ct elt : Expr) (x : Str) (scope : Scope) (cl : List (Str × Addr)) (s : Shared) (news : List (Addr × Obj)) (n : Nat) (J : Nat → List Value → Prop) : Prop :=
  ∀ i ys, i < n → J i ys → ∀ t I oI C oC X oX D h tk E', oX.data = .cell (some (.int (i : Int) t)) → Fr h₀ L h m → News h₀ L h ((I, oI) :: (C, oC) :: (X, oX) :: (D, lst ys) :: news) → Apart4 I C X D news →
    wpAny (model prog w) A (isTrue ct (compEnvC scope ((x, X) :: cl) C env) (eval ct (compEnvC scope ((x, X) :: cl) C env))) (fun ok s' => if ok = true then
        wpAny (model prog w) A (eval elt (compEnvC scope ((x, X) :: cl) C env)) (fun y s'' => J (i + 1) (ys ++ [y]) ∧ CTurn h₀ L m { s with heap := h, toks := tk } ((I, oI) :: (C, oC) :: (X, oX) :: (D, lst ys) :: news) s'') E' s'
        else J (i + 1) ys ∧ CTurn h₀ L m { s with heap := h, toks := tk } ((I, oI) :: (C, oC) :: (X, oX) :: (D, lst ys) :: news) s') E' { s with heap := h, toks := tk }
inductive CellSrc (prog : Program) (w : World) (A : Around) (h₀ : Heap) (L : Addr) (m : Str → Option Value) (env : Env) (ct elt : Expr) (x : Str) (scope : Scope) (cl : List (Str × Addr)) (y : Str) (Q : Flow → Shared → Prop) (xv : Value) (s₁ : Shared) : Prop
  | mk (r : Addr) (t u v : Tok) (n : Nat) (news : List (Addr × Obj)) (J : Nat → List Value → Prop) (e : xv = .ref r) (hh : A.handled = none) (F : Fr h₀ L s₁.heap m) (N : News h₀ L s₁.heap news) (hr : IsRange s₁.heap r 0 ((n : Nat) : Int) 1 t u v)
    (hs : Builtin.Range.small 0 ((n : Nat) : Int) 1 = true) (hn : Builtin.Range.rangeSize 0 ((n : Nat) : Int) 1 = ((n : Nat) : Int)) (hz : n ≤ sizeLine) (hJ : J 0 []) (ht : CellTurns prog w A h₀ L m env ct elt x scope cl s₁ news n J)
    (hf : ∀ D h tk ys, J n ys → Fr h₀ L h (fun z => if z = y then some (.ref D) else m z) → News h₀ L h ((D, lst ys) :: news) → Off1 D news → Q .next { s₁ with heap := h, toks := tk }) : CellSrc prog w A h₀ L m env ct elt x scope cl y Q xv s₁
section
variable {prog : Program} {w : World} {A : Around} {E : Value → Shared → Prop} {s : Shared} {h₀ : Heap} {L : Addr} {m : Str → Option Value} {env : Env}
theorem CellSrc.range {ct elt : Expr} {x y : Str} {scope : Scope} {cl : List (Str × Addr)} {Q : Flow → Shared → Prop} {r : Addr} {t u v : Tok} {n : Nat} {news : List (Addr × Obj)} {s₁ : Shared} (J : Nat → List Value → Prop)
    (hh : A.handled = none) (F : Fr h₀ L s₁.heap m) (N : News h₀ L s₁.heap news) (hr : IsRange s₁.heap r 0 ((n : Nat) : Int) 1 t u v) (hn : n ≤ 1000) (hJ : J 0 [])
    (turns : CellTurns prog w A h₀ L m env ct elt x scope cl s₁ news n J)
    (fin : ∀ D h tk ys, J n ys → Fr h₀ L h (fun z => if z = y then some (.ref D) else m z) → News h₀ L h ((D, lst ys) :: news) → Off1 D news → Q .next { s₁ with heap := h, toks := tk }) :
    CellSrc prog w A h₀ L m env ct elt x scope cl y Q (.ref r) s₁ :=
  ⟨r, t, u, v, n, news, J, rfl, hh, F, N, hr, range_small hn, range_size hn, by have h3 : sizeLine = 16777216 := rfl; omega, hJ, turns, fin⟩
theorem Assign_cellComp {ct elt iter : Expr} {x y : Str} {px py : Pos} {scope : Scope} {cl : List (Str × Addr)} {pos spos : Pos} {Q : Flow → Shared → Prop} (F₀ : Fr h₀ L s.heap m) (hLe : env.locals = L)
    (hsw : swapsWith (.ListComp elt [⟨.Name x px, iter, [ct], 0⟩] scope pos) (some (.Name y py)) spos.line env = pure true)
    (hclos : closureFor scope env = pure cl) (hcells : ∀ k, cellsFrom k scope.names cl = (x, k) :: cl) (hpush : ∀ h, pushCells h scope.names = h.push { cls := .type "cell", data := .cell none }) (hkind : scope.kind = .function)
    (hnames : ∀ z ∈ scope.names, z.2 = .local → scope.names.lookup z.1 = some .local) (hx : (relabel scope env).names.lookup x = some .cell)
    (hy : env.kindOf y = some .local) (hp : (env.scope.kind == .class || (env.scope.kind == .module && env.locals != env.globals)) = false)
    (h : wpAny (model prog w) A (eval iter env) (CellSrc prog w A h₀ L m env ct elt x scope cl y Q) E s)
    (hs : ∀ x, foldedSetIterable iter env x = pure x := by intro _; rfl) :
    wpAny (model prog w) A (exec (.Assign [.Name y py] (.ListComp elt [⟨.Name x px, iter, [ct], 0⟩] scope pos) spos) env) Q E s := by
  subst hLe
  rw [exec_Assign_Name_used _ _ _ _ hsw]
  refine wpAny_bind (wpAny_standAt (wpAny_bind ?_))
  show wpAny _ A (do let _ ← comprehension (.ListComp elt [⟨.Name x px, iter, [ct], 0⟩] scope pos) scope env _ (newList []) false (eval iter env) (some (assign (.Name y py) env))) _ _ s
  refine wpAny_bind (wpAny_mono (wpAny_comprehension_free (use := some (assign (.Name y py) env)) (Q := fun _ s' => Q .next s') rfl hs hclos hkind hnames
    (wpAny_mono h (fun xv s₁ h₁ => ?_) fun _ _ e => e)) (fun _ s' hq => wpAny_pure (wpAny_pure hq)) fun _ _ e => e)
  obtain ⟨r, t, u, v, n, news, J, rfl, hh, F, N, hr, hsm, hn, hsz, hJ, turns, fin⟩ := h₁
  refine wpAny_pyIter_range hr hsm ?_
  rw [hn]
  generalize hI : s₁.heap.objs.size = I
  generalize hH1 : s₁.heap.push _ = H1
  have eI : H1.objs.size = I + 1 := by rw [← hH1, Heap.size_push, hI]
  have hst : IsRangeIter H1 I (0 + ((0 : Nat) : Int) * 1) (((n : Nat) : Int) - ((0 : Nat) : Int)) 1 := by
    show H1.get? I = some _
    rw [← hH1, ← hI]
    simpa using Heap.get?_push_size _ rfl
  have F1 : Fr h₀ env.locals H1 m := by rw [← hH1]; exact F.keeps fun _ _ e => Heap.get?_push_of_some _ e
  have N1 : News h₀ env.locals H1 news := by rw [← hH1]; exact N.grown fun _ _ e => Heap.get?_push_of_some _ e
  have offI : ∀ p ∈ news, @LT.lt Nat _ p.1 I := fun p hp => hI ▸ Heap.lt_size (N p hp).1
  have hLI : @LT.lt Nat _ env.locals I := hI ▸ F.ns.lt
  have h₀I : @LE.le Nat _ h₀.objs.size I := by
    have h1 := F.above
    have h1' : @LE.le Nat _ h₀.objs.size env.locals := h1
    omega
  refine wpAny_newObj_type ?_
  dsimp only
  generalize hH2 : H1.push _ = H2
  rw [show H1.objs.size = I + 1 from eI]
  have eD : H2.objs.size = I + 2 := by rw [← hH2, Heap.size_push, eI]
  have aD : H2.get? (I + 1) = some (lst []) := by
    rw [← hH2, ← eI]; exact Heap.get?_push_size _ rfl
  have k12 : ∀ b o, H1.get? b = some o → H2.get? b = some o := fun b o e => hH2 ▸ Heap.get?_push_of_some _ e
  simp only [newFunctionEnv, Option.isSome_some, if_true]
  refine wpAny_bind (wpAny_alloc ?_)
  refine wpAny_bind (wpAny_layCells _ (fun name kind cells => by cases hkc : kind == NameKind.cell <;> simp [hkc]) _ _ _ _ ?_)
  dsimp only
  rw [hcells, hpush]
  generalize hH3 : H2.push _ = H3
  have eC : H3.objs.size = I + 3 := by rw [← hH3, Heap.size_push, eD]
  generalize hH4 : H3.push _ = H4
  rw [show H3.objs.size = I + 3 from eC, show H2.objs.size = I + 2 from eD]
  refine wpAny_bind (wpAny_pure (wpAny_pure ?_))
  dsimp only
  have aI : H4.get? I = H1.get? I := by
    obtain ⟨o, ho⟩ : ∃ o, H1.get? I = some o := ⟨_, hst⟩
    rw [ho]
    rw [← hH4]; refine Heap.get?_push_of_some _ ?_
    rw [← hH3]; refine Heap.get?_push_of_some _ (k12 _ _ ho)
  have k14 : ∀ b o, H1.get? b = some o → H4.get? b = some o := fun b o e => by
    rw [← hH4]; refine Heap.get?_push_of_some _ ?_
    rw [← hH3]; exact Heap.get?_push_of_some _ (k12 _ _ e)
  have aD4 : H4.get? (I + 1) = some (lst []) := by
    rw [← hH4]; refine Heap.get?_push_of_some _ ?_
    rw [← hH3]; exact Heap.get?_push_of_some _ aD
  obtain ⟨oC, hoC⟩ : ∃ oC : Obj, oC = { cls := Value.type "dict", data := Data.dict #[] } := ⟨_, rfl⟩
  have aC4 : H4.get? (I + 2) = some oC := by
    rw [← hH4]; refine Heap.get?_push_of_some _ ?_
    rw [hoC, ← hH3, ← eD]; exact Heap.get?_push_size _ rfl
  have hCn : ∀ hp : Heap, hp.get? (I + 2) = some oC → hp.Ns (I + 2) (fun _ => none) := fun hp e => by
    subst hoC
    exact ⟨_, #[], _, e, rfl, fun _ hh => by simp at hh, fun name => by rfl⟩
  obtain ⟨oX, aX4, dX⟩ : ∃ oX, H4.get? (I + 3) = some oX ∧ oX.data = .cell none := ⟨_, by rw [← hH4, ← eC]; exact Heap.get?_push_size _ rfl, rfl⟩
  have above₀ : ∀ a : Addr, @LE.le Nat _ I a → h₀.get? a = none := fun a ha => by
    cases e : h₀.get? a with
    | none => rfl
    | some o' =>
      have h1 : @LT.lt Nat _ a h₀.objs.size := Heap.lt_size e
      omega
  have hLb : ∀ a : Addr, @LE.le Nat _ I a → a ≠ env.locals := fun a ha e => by
    have e' : @Eq Nat _ _ := e
    omega
  have bC : (I + 2 : Nat) ≠ env.locals ∧ h₀.get? (I + 2) = none := ⟨hLb _ (Nat.le_add_right I 2), above₀ _ (Nat.le_add_right I 2)⟩
  have bX : (I + 3 : Nat) ≠ env.locals ∧ h₀.get? (I + 3) = none := ⟨hLb _ (Nat.le_add_right I 3), above₀ _ (Nat.le_add_right I 3)⟩
  have bD : (I + 1 : Nat) ≠ env.locals ∧ h₀.get? (I + 1) = none := ⟨hLb _ (Nat.le_add_right I 1), above₀ _ (Nat.le_add_right I 1)⟩
  have ap : Apart4 I (I + 2) (I + 3) (I + 1) news := by
    refine ⟨⟨?_, ?_, ?_, off1_of fun p hp e => ?_⟩, ⟨?_, ?_, off1_of fun p hp e => ?_⟩, ⟨?_, off1_of fun p hp e => ?_⟩, off1_of fun p hp e => ?_⟩
    all_goals first
      | (have h1 := offI p hp; have e' : @Eq Nat _ _ := e; omega)
      | (show @Ne Nat _ _; dsimp only; omega)
  have F4 : Fr h₀ env.locals H4 m := F1.keeps k14
  have N4 : News h₀ env.locals H4 news := N1.grown k14
  refine codeAny_compStart_list (?lp) ((range_walks hh 0 n).self 0 _ _ _ (by show H4.get? I = some _; rw [aI]; exact hst) ?lp)
  case lp =>
    show codeAny (model prog w) A (.compLoop (.ListComp elt [⟨.Name x px, iter, [ct], 0⟩] scope pos) 0 (.ref I) (.ref (I + 1)) (compEnvC scope ((x, I + 3) :: cl) (I + 2) env)) _ _
    refine codeAny_compLoop_tests
      (fun k s' => Ex6 fun h' tk i ys oX vX => An9 (s' = { s₁ with heap := h', toks := tk }) (i ≤ n) (k = n + 1 - i) (ys.length ≤ i) (IsRangeIter h' I (0 + (i : Nat) * 1) ((n : Int) - (i : Nat)) 1) (Fr h₀ env.locals h' m) (oX.data = .cell vX) (News h₀ env.locals h' ((I + 2, oC) :: (I + 3, oX) :: (I + 1, lst ys) :: news)) (J i ys)) ?_ (n + 1)
      ⟨H4, _, 0, [], oX, none, rfl, Nat.zero_le _, rfl, Nat.le_refl _, by show H4.get? I = some _; rw [aI]; exact hst, F4, dX, ?_, hJ⟩
    · rintro k s' ⟨h', tk, i, ys, oX, vX, rfl, hi, rfl, hyl, hst', F', dX, N', hJ'⟩
      have hX' := (N' (I + 3, oX) (.tail _ (.head _))).1
      have hC' := (N' (I + 2, oC) (.head _)).1
      have hD' := (N' (I + 1, lst ys) (.tail _ (.tail _ (.head _)))).1
      have hIL : env.locals ≠ I := fun e => hLb I (Nat.le_refl _) e.symm
      by_cases hlt : i < n
      · refine (range_walks hh 0 n).item i _ _ _ hlt hst' fun v h₂ tk₂ hPv hst₂ hk₂ => ?_
        obtain ⟨t, rfl⟩ := hPv
        rw [show (0 : Int) + (i : Int) = (i : Int) from Int.zero_add _]
        refine wpAny_assign_Name (wpAny_storeName_cell (c := I + 3) (v₀ := vX) (by simp [compEnvC, relabel, hkind]) hx (by simp [compEnvC]) ⟨oX, hk₂ _ _ (by simp) hX', dX⟩ fun h₃ hX₃ hs₃ => ?_)
        obtain ⟨oX₃, aX₃, dX₃⟩ := hX₃
        refine wpAny_tests_one ?_
        have kI₂ : ∀ b o, b ∉ [I] → h'.get? b = some o → h₂.get? b = some o := hk₂
        have F₃ : Fr h₀ env.locals h₃ m := (fr_but F' hk₂ hIL (above₀ I (Nat.le_refl _))).change hs₃ bX.1 bX.2
        obtain ⟨oI, eI₂, hoI⟩ : ∃ oI, h₂.get? I = some oI ∧ ∀ h4 : Heap, h4.get? I = some oI → IsRangeIter h4 I (0 + ((i + 1 : Nat) : Nat) * 1) ((n : Int) - ((i + 1 : Nat) : Nat)) 1 := ⟨_, hst₂, fun h4 e => e⟩
        have N₂ : News h₀ env.locals h₂ ((I + 2, oC) :: (I + 3, oX) :: (I + 1, lst ys) :: news) := news_but N' hk₂ fun p hp => by
          rcases List.mem_cons.mp hp with rfl | hp
          · exact fun e => ap.i.1 e
          · rcases List.mem_cons.mp hp with rfl | hp
            · exact fun e => ap.i.2.1 e
            · rcases List.mem_cons.mp hp with rfl | hp
              · exact fun e => ap.i.2.2.1 e
              · exact off1_mem ap.i.2.2.2 p hp
        have N₃ : News h₀ env.locals h₃ ((I, oI) :: (I + 2, oC) :: (I + 3, oX₃) :: (I + 1, lst ys) :: news) := fun p hp => by
          rcases List.mem_cons.mp hp with rfl | hp
          · exact ⟨hs₃.extBut _ _ (fun e => ap.i.2.1 e.symm) eI₂, hLb _ (Nat.le_refl _), above₀ _ (Nat.le_refl _)⟩
          · rcases List.mem_cons.mp hp with rfl | hp
            · have z := N₂ _ (.head _)
              exact ⟨hs₃.extBut _ _ (fun e => ap.c.1 e.symm) z.1, z.2⟩
            · rcases List.mem_cons.mp hp with rfl | hp
              · exact ⟨aX₃, (N₂ _ (.tail _ (.head _))).2⟩
              · rcases List.mem_cons.mp hp with rfl | hp
                · have z := N₂ _ (.tail _ (.tail _ (.head _)))
                  exact ⟨hs₃.extBut _ _ (fun e => ap.x.1 e) z.1, z.2⟩
                · have z := N₂ p (.tail _ (.tail _ (.tail _ hp)))
                  exact ⟨hs₃.extBut _ _ (off1_mem ap.x.2 p hp) z.1, z.2⟩
        refine wpAny_mono (turns i ys hlt hJ' t I oI (I + 2) oC (I + 3) oX₃ (I + 1) h₃ _ _ dX₃ F₃ N₃ ap) (fun ok s₄ h₄ => ?_) fun _ _ e => e
        cases ok with
        | true =>
          simp only [if_true] at h₄ ⊢
          refine wpAny_mono h₄ (fun y s₅ h₅ => ?_) fun _ _ e => e
          obtain ⟨hJ₅, h₅, tk₅, rfl, F₅, N₅⟩ := h₅
          have zI := (N₅ _ (.head _)).1
          have zC := (N₅ _ (.tail _ (.head _))).1
          have zX := (N₅ _ (.tail _ (.tail _ (.head _)))).1
          have zD := (N₅ _ (.tail _ (.tail _ (.tail _ (.head _))))).1
          refine append_at (hsz := by show ys.toArray.size ≤ sizeLine; rw [List.size_toArray]; exact Nat.le_trans (Nat.le_trans hyl hi) hsz) zD fun h₆ hs₆ hD₆ => ?_
          refine ⟨n + 1 - (i + 1), by omega, h₆, tk₅, i + 1, ys ++ [y], oX₃, _, rfl, hlt, rfl, by rw [List.length_append, List.length_singleton]; exact Nat.succ_le_succ hyl, hoI _ (hs₆.extBut _ _ (fun e => ap.i.2.2.1 e.symm) zI), F₅.change hs₆ bD.1 bD.2, dX₃, fun p hp => ?_, hJ₅⟩
          rcases List.mem_cons.mp hp with rfl | hp
          · have z := N₅ _ (.tail _ (.head _))
            exact ⟨hs₆.extBut _ _ (fun e => ap.c.2.1 e.symm) z.1, z.2⟩
          · rcases List.mem_cons.mp hp with rfl | hp
            · have z := N₅ _ (.tail _ (.tail _ (.head _)))
              exact ⟨hs₆.extBut _ _ (fun e => ap.x.1 e.symm) z.1, z.2⟩
            · rcases List.mem_cons.mp hp with rfl | hp
              · exact ⟨hD₆.trans (congrArg some (lst_snoc ys y)), bD.1, bD.2⟩
              · have z := N₅ p (.tail _ (.tail _ (.tail _ (.tail _ hp))))
                exact ⟨hs₆.extBut _ _ (off1_mem ap.d p hp) z.1, z.2⟩
        | false =>
          simp only [Bool.false_eq_true, if_false] at h₄ ⊢
          obtain ⟨hJ₅, h₅, tk₅, rfl, F₅, N₅⟩ := h₄
          have zI := (N₅ _ (.head _)).1
          exact ⟨n + 1 - (i + 1), by omega, h₅, tk₅, i + 1, ys, oX₃, _, rfl, hlt, rfl, Nat.le_succ_of_le hyl, hoI _ zI, F₅, dX₃, fun p hp => N₅ p (.tail _ hp), hJ₅⟩
      · obtain rfl : i = n := Nat.le_antisymm hi (Nat.not_lt.mp hlt)
        refine (range_walks hh 0 i).done _ _ _ hst' fun h₂ tk₂ hk₂ => ?_
        show wpAny _ A (assign (.Name y py) env (.ref (I + 1))) _ _ _
        have F₂ := fr_but F' hk₂ hIL (above₀ I (Nat.le_refl _))
        have N₂ : News h₀ env.locals h₂ ((I + 2, oC) :: (I + 1, lst ys) :: news) := news_but (fun p hp => N' p (by
          rcases List.mem_cons.mp hp with rfl | hp
          · exact .head _
          · exact .tail _ (.tail _ hp))) hk₂ fun p hp => by
            rcases List.mem_cons.mp hp with rfl | hp
            · exact fun e => ap.i.1 e
            · rcases List.mem_cons.mp hp with rfl | hp
              · exact fun e => ap.i.2.2.1 e
              · exact off1_mem ap.i.2.2.2 p hp
        refine wpAny_assign_Name (wpAny_storeName_local hy F₂.ns (fun h₃ hn₃ hs₃ => ?_) hp)
        have hL₀ : h₀.get? env.locals = none := Heap.get?_none_of_le F₂.above
        have F₃ : Fr h₀ env.locals h₃ (fun z => if z = y then some (.ref (I + 1)) else m z) := ⟨hn₃, fun b o e => hs₃.extBut b o (fun q => by rw [q, hL₀] at e; cases e) (F₂.keep b o e), F₂.above⟩
        have hCL : (I + 2 : Nat) ≠ env.locals := bC.1
        refine ⟨_, (hCn _ (N₂ _ (.head _)).1).sameBut hs₃ hCL, fun h'' hs'' => fin (I + 1) h'' _ ys hJ' (F₃.change hs'' hCL bC.2) (fun p hp => ?_) ap.d⟩
        have z : h₃.get? p.1 = some p.2 := hs₃.extBut _ _ (N₂ p (.tail _ hp)).2.1 (N₂ p (.tail _ hp)).1
        refine ⟨hs''.extBut _ _ ?_ z, (N₂ p (.tail _ hp)).2⟩
        rcases List.mem_cons.mp hp with rfl | hp
        · exact fun e => ap.c.2.1 e
        · exact off1_mem ap.c.2.2 p hp
    · intro p hp
      rcases List.mem_cons.mp hp with rfl | hp
      · exact ⟨aC4, bC.1, bC.2⟩
      · rcases List.mem_cons.mp hp with rfl | hp
        · exact ⟨aX4, bX.1, bX.2⟩
        · rcases List.mem_cons.mp hp with rfl | hp
          · exact ⟨aD4, bD.1, bD.2⟩
          · exact N4 p hp
end
end Mine
end

section
open PySem PySem.Spec PySem.W PySem.Calls PyProof.Rows PyProof.Rows.LCg
set_option maxRecDepth 100000
set_option maxHeartbeats 4000000
set_option linter.unusedVariables false
namespace Mine
section
variable {w : World} {A : Around} {E : Value → Shared → Prop} {s : Shared} {h₀ : Heap} {L : Addr} {m : Str → Option Value} {env : Env}
theorem restT_of {ct elt : PySem.Expr} {x : Str} {scope : Scope} {cl : List (Str × Addr)} {S : List (Addr × Obj) → Prop} {P : Nat → Value → Prop} {Fin : List Value → List (Addr × Obj) → Prop} (J : Nat → List Value → List (Addr × Obj) → Prop) {n : Nat}
    (step : ∀ i ys news, i < n → J i ys news → ∀ v I oI C oC D m₂ h tk E', P i v → NsObj oC m₂ → m₂ x = some v → Fr h₀ L h m → News h₀ L h ((I, oI) :: (C, oC) :: (D, lst ys) :: news) → Off3 I C D news → ((@Ne Nat I C) ∧ (@Ne Nat I D) ∧ (@Ne Nat C D)) →
      wpAny (model PR w) A (isTrue ct (compEnvC scope cl C env) (eval ct (compEnvC scope cl C env))) (fun ok s' => if ok = true then
        wpAny (model PR w) A (eval elt (compEnvC scope cl C env)) (CompEnd h₀ L m { s with heap := h, toks := tk } I oI C oC D (lst ys) S (fun y news' => J (i + 1) (ys ++ [y]) news')) E' s'
        else CompEnd h₀ L m { s with heap := h, toks := tk } I oI C oC D (lst ys) S (fun _ news' => J (i + 1) ys news') Value.none s') E' { s with heap := h, toks := tk })
    (fin : ∀ ys news, J n ys news → Fin ys news) : ∀ k i ys news, i + k = n → J i ys news → LCt.CompRestT PR w A h₀ L m env ct elt x scope cl s S P Fin k i ys news
  | 0, i, ys, news, hk, hJ => LCt.CompRestT.zero (fin _ _ (by have : i = n := by omega
                                                              exact this ▸ hJ))
  | k + 1, i, ys, news, hk, hJ => LCt.CompRestT.succ fun v I oI C oC D m₂ h tk E' hP hC hx F N off ne => by
    refine wpAny_mono (step i ys news (by omega) hJ v I oI C oC D m₂ h tk E' hP hC hx F N off ne) (fun ok s₂ h₂ => ?_) fun _ _ e => e
    cases ok with
    | true =>
      simp only [if_true] at h₂ ⊢
      refine wpAny_mono h₂ (fun y s₃ h₃ => ?_) fun _ _ e => e
      obtain ⟨h', tk', news', e, F', N', off', hS, hr⟩ := h₃
      exact ⟨h', tk', news', e, F', N', off', hS, restT_of J step fin k (i + 1) _ _ (by omega) hr⟩
    | false =>
      simp only [Bool.false_eq_true, if_false] at h₂ ⊢
      obtain ⟨h', tk', news', e, F', N', off', hS, hr⟩ := h₂
      exact ⟨h', tk', news', e, F', N', off', hS, restT_of J step fin k (i + 1) _ _ (by omega) hr⟩
end
theorem strs_take : ∀ {vs : List Value} {ss : List Str}, StrsAre vs ss → ∀ k : Nat, StrsAre (vs.take k) (ss.take k)
  | _, _, .nil, k => by simp; exact .nil
  | _, _, .cons h, 0 => by simp; exact .nil
  | _, _, .cons h, k + 1 => .cons (strs_take h k)
theorem strs_drop : ∀ {vs : List Value} {ss : List Str}, StrsAre vs ss → ∀ k : Nat, StrsAre (vs.drop k) (ss.drop k)
  | _, _, .nil, k => by simp; exact .nil
  | _, _, .cons h, 0 => .cons h
  | _, _, .cons h, k + 1 => strs_drop h k
theorem starts_bound : ∀ (W : List (List Nat)), ∀ x ∈ starts W, x ≤ W.flatten.length
  | [], x, h => nomatch h
  | w :: ws, x, h => by
    rcases List.mem_cons.mp h with rfl | h
    · exact Nat.zero_le _
    · obtain ⟨y, hy, rfl⟩ := List.mem_map.mp h
      have := starts_bound ws y hy
      simp only [List.flatten_cons, List.length_append]; omega
theorem starts_le {W : List (List Nat)} {ns : List Nat} (h : W.flatten = ns) (l : List Nat) (hl : ∀ x ∈ l, x ∈ starts W ∨ x = ns.length) : ∀ x ∈ l, x ≤ ns.length := fun x hx => by
  rcases hl x hx with hx | hx
  · rw [← h]; exact starts_bound W x hx
  · omega
theorem words_flat : ∀ ns : List Nat, (ns.map wordL).flatten.length ≤ 8 * ns.length
  | [] => by simp
  | n :: ns => by have := words_flat ns; have := word_len n; simp only [List.map_cons, List.flatten_cons, List.length_append, List.length_cons]; omega
theorem strs_nils {t : Tok} : ∀ d : Nat, StrsAre (List.replicate d (.str (Str.ofString "") t)) ((List.replicate d []).map ofL)
  | 0 => .nil
  | d + 1 => .cons (x := ofL []) (strs_nils d)
theorem piece_at {ns : List Nat} {W : List (List Nat)} {as bs : List Nat} (h : ((as.zip bs).map (piece ns)) = W) {i a b : Nat} (ha : as[i]? = some a) (hb : bs[i]? = some b) : W[i]? = some (piece ns (a, b)) := by
  rw [← h, List.getElem?_map, List.getElem?_zip_eq_some (z := (a, b)) |>.mpr ⟨ha, hb⟩]
  rfl
section
variable {w : World} {A : Around} {E : Value → Shared → Prop} {s : Shared} {h₀ : Heap} {L l a b : Addr} {m : Str → Option Value} {news : List (Addr × Obj)} {vs ws : List Value} {cs ds : List Nat} {k j i : Nat} {t : Tok} {value slice : PySem.Expr} {Q : Value → Shared → Prop}
theorem fromK (F : Fr h₀ L s.heap m) (N : News h₀ L s.heap news) (hm : (l, listOf vs.toArray k) ∈ news) (hv : IntsAre vs (cs.map Int.ofNat)) (hz : cs.length ≤ 1000)
    (h : ∀ D ws h', Fr h₀ L h' m → News h₀ L h' ((D, listOf (List.toArray ws) 0) :: news) → (∀ p ∈ news, p.1 < D) → IntsAre ws ((cs.drop i).map Int.ofNat) → ws.length ≤ cs.length → Q (.ref D) { s with heap := h' })
    (hs : subscripted slice false (.ref l) (.ref s.heap.objs.size) = operate [.ref s.heap.objs.size, .ref l] (getItem (.ref l) (.ref s.heap.objs.size))) (ht : ∀ r, letTemporaryGo value (.ref l) r = pure ()) :
    wpAny (model PR w) A (subscriptTail value slice (.ref l) (.ref s.heap.objs.size)) Q E { s with heap := s.heap.push { cls := .type "slice", data := .fields #[.int (i : Int) t, .none, .none] } } := by
  have hl : vs.length = cs.length := by rw [hv.length, List.length_map]
  refine kmk_slice_ints F N (N.isList hm) (.int _ _) .none hv (kmk_from hv (Int.natCast_nonneg i)) rfl (fun D ws h' F' N' l1 hi _ _ => h D ws h' F' N' l1 ?_ ?_) hs ht (by have h3 : sizeLine = 16777216 := rfl; simp; omega)
  · rw [Int.toNat_natCast, ← List.map_drop] at hi
    exact hi
  · rw [hi.length]; simp
theorem runK {ns : List Nat} {t₂ : Tok} (F : Fr h₀ L s.heap m) (N : News h₀ L s.heap news) (hm : (l, listOf vs.toArray k) ∈ news) (hv : StrsAre vs (ns.map fun x => ofL (wordL x))) (hz : ns.length ≤ 1000) (hj : j ≤ ns.length)
    (h : ∀ D ws h', Fr h₀ L h' m → News h₀ L h' ((D, listOf (List.toArray ws) 0) :: news) → (∀ p ∈ news, p.1 < D) → StrsAre ws ((((ns.take j).drop i).map wordL).map ofL) → Q (.ref D) { s with heap := h' })
    (hs : subscripted slice false (.ref l) (.ref s.heap.objs.size) = operate [.ref s.heap.objs.size, .ref l] (getItem (.ref l) (.ref s.heap.objs.size))) (ht : ∀ r, letTemporaryGo value (.ref l) r = pure ()) :
    wpAny (model PR w) A (subscriptTail value slice (.ref l) (.ref s.heap.objs.size)) Q E { s with heap := s.heap.push { cls := .type "slice", data := .fields #[.int (i : Int) t, .int (j : Int) t₂, .none] } } := by
  have hl : vs.length = ns.length := by rw [StrsAre.len hv, List.length_map]
  refine kmk_slice F N (N.isList hm) (.int _ _) (.int _ _) (fun D h' F' N' l1 => h D ((vs.take j).drop i) h' F' ?_ l1 ?_) hs ht (by have h3 : sizeLine = 16777216 := rfl; simp; omega)
  · have e : sliceBounds (some (i : Int)) (some (j : Int)) none vs.toArray.size = (((min i vs.toArray.size : Nat) : Int), ((min j vs.toArray.size : Nat) : Int), 1) := by
      simp only [sliceBounds, Option.getD_none, show (1 : Int) > 0 by decide, if_true, if_neg (show ¬ ((i : Int) < 0) by omega), if_neg (show ¬ ((j : Int) < 0) by omega)]
      congr 1
      · omega
      · congr 1
        omega
    rw [kmk_pick_nat _ e] at N'
    rw [List.drop_take]
    have e2 : ((vs.toArray.toList.drop (min i vs.toArray.size)).take (min j vs.toArray.size - min i vs.toArray.size)) = (vs.drop i).take (j - i) := by
      simp only [List.size_toArray]
      rw [Nat.min_eq_left (show j ≤ vs.length by omega), kmk_drop_min]
      by_cases hi : i ≤ vs.length
      · rw [Nat.min_eq_left hi]
      · rw [List.drop_of_length_le (show vs.length ≤ i by omega)]; simp
    rw [e2] at N'
    exact N'
  · rw [List.map_map, List.map_drop, List.map_take]
    exact strs_drop (strs_take hv _) _
theorem mulK {v : Value} {u : Tok} {x : Int} {d : Nat} (F : Fr h₀ L s.heap m) (N : News h₀ L s.heap news) (hm : (l, listOf #[v] k) ∈ news) (hx : x = (d : Int)) (hd : d ≤ 100)
    (h : ∀ D h', Fr h₀ L h' m → News h₀ L h' ((D, listOf (List.replicate d v).toArray 0) :: news) → (∀ p ∈ news, p.1 < D) → Q (.ref D) { s with heap := h' }) :
    wpAny (model PR w) A (binaryOp .Mult (.ref l) (.int x u)) Q E s := by
  subst hx
  refine KMa.mul F N (vs := [v]) (N.isList hm) (by omega) (by omega) (by simp; omega) ?_ h
  rw [Int.toNat_natCast, lm_rep_flat_one]
theorem leK (N : News h₀ L s.heap news) (ha : (a, listOf vs.toArray k) ∈ news) (hb : (b, listOf ws.toArray j) ∈ news) (hv : IntsAre vs (cs.map Int.ofNat)) (hw : IntsAre ws (ds.map Int.ofNat)) (hu : A.units < cLine)
    (h : Q (.bool (!(ltB ds cs))) s) : wpAny (model PR w) A (compareOp .LtE (.ref a) (.ref b)) Q E s :=
  leInts (N _ ha).1 (N _ hb).1 hv hw hu h
theorem eqNilK (N : News h₀ L s.heap news) (ha : (a, listOf vs.toArray k) ∈ news) (hb : (b, listOf (#[] : Array Value) j) ∈ news) (hv : IntsAre vs (cs.map Int.ofNat)) (hu : A.units + 64 < cLine)
    (h : Q (.bool (decide (cs = []))) s) : wpAny (model PR w) A (compareOp .Eq (.ref a) (.ref b)) Q E s := by
  refine ke_eq_ints (N.isList ha) (ys := []) (N.isList hb) hv .nil hu ?_
  have : decide (cs.map Int.ofNat = []) = decide (cs = []) := by cases cs <;> simp
  rw [this]; exact h
end
theorem nz1 {n W : Nat} (h : W ≤ n) : W + (n + 1 - W) = n + 1 := by omega
theorem nz2 {n W : Nat} (h : W ≤ n) : n + 1 - W = (n - W) + 1 := by omega
theorem nz3 {n W : Nat} (h : W ≤ n) (hn : n ≤ 8) : n + 1 - W ≤ 100 := by omega
theorem nz4 {n W : Nat} (h : W ≤ n) : (n : Int) + 1 - (W : Int) = ((n + 1 - W : Nat) : Int) := by omega
theorem nz5 {n W z : Nat} (e : z = W) (h : W ≤ n) (hn : n ≤ 8) : z + (n + 1 - W) ≤ 1000 := by omega
theorem nz6 {a k W : Nat} (e : a = W + 1) (h : W ≤ 8) : a - k < 1000 := by omega
theorem nz7 (W : Nat) : min W (W - 1 + 1) = W := by omega
theorem nz8 {a b n : Nat} (h : b ≤ n) (hn : n ≤ 8) : min b n - a ≤ 8 := by omega
theorem nz9 {x k : Nat} (h : x ≤ 8 * k) (hk : k ≤ 8) : x ≤ 1000000 := by omega
theorem nz10 {n : Nat} (h : n ≤ 8) : n + 1 ≤ sizeLine := by have h3 : sizeLine = 16777216 := rfl; omega
theorem nz11 {vs : List Value} {n : Nat} (e : vs.length = n) (h : n ≤ 8) : vs.toArray.size ≤ sizeLine := by have h3 : sizeLine = 16777216 := rfl; simp; omega
theorem cut_filter (C : List Nat) (i : Nat) : isCut C i = decide ((List.range i).filter (fun j => !(ltB (C.drop i) (C.drop j))) = []) := by
  rw [Bool.eq_iff_iff, isCut_iff]
  simp [List.filter_eq_nil_iff]
theorem filt_snoc {p : Nat → Bool} {i : Nat} (h : p i = true) : (List.range (i + 1)).filter p = (List.range i).filter p ++ [i] := by
  rw [List.range_succ, List.filter_append]; simp [h]
theorem filt_same {p : Nat → Bool} {i : Nat} (h : p i = false) : (List.range (i + 1)).filter p = (List.range i).filter p := by
  rw [List.range_succ, List.filter_append]; simp [h]
end Mine
end

section
open PySem PySem.Spec PySem.W PySem.Calls PyProof.Rows PyProof.Rows.LCg
set_option maxRecDepth 100000
set_option maxHeartbeats 4000000
set_option linter.unusedVariables false
namespace Mine
abbrev ZSt (z TI TO i1 i2 l1 l2 : Addr) (xs ys : Array Value) (i : Nat) (h : Heap) : Prop :=
  IsZip h z TI TO .none ∧ IsPair h TI (.ref i1) (.ref i2) ∧ (∃ a b, IsPair h TO a b) ∧ h.IsListIter i1 l1 i ∧ h.IsListIter i2 l2 i ∧ h.IsList l1 xs ∧ h.IsList l2 ys
def ZipTurns (prog : Program) (w : World) (A : Around) (h₀ : Heap) (L : Addr) (m : Str → Option Value) (env : Env) (elt : Expr) (x x₂ : Str) (scope : Scope) (cl : List (Str × Addr)) (s : Shared) (news : List (Addr × Obj)) (xs ys : Array Value) (J : Nat → List Value → Prop) : Prop :=
  ∀ i zs vx vy, xs[i]? = some vx → ys[i]? = some vy → J i zs → ∀ z oz a1 b1 a2 b2 a3 b3 a4 b4 C oC m₂ D h tk E', NsObj oC m₂ → m₂ x = some vx → m₂ x₂ = some vy → Fr h₀ L h m →
    News h₀ L h ((z, oz) :: (a1, b1) :: (a2, b2) :: (a3, b3) :: (a4, b4) :: (C, oC) :: (D, lst zs) :: news) →
    wpAny (model prog w) A (eval elt (compEnvC scope cl C env)) (fun y s'' => J (i + 1) (zs ++ [y]) ∧ CTurn h₀ L m { s with heap := h, toks := tk } ((z, oz) :: (a1, b1) :: (a2, b2) :: (a3, b3) :: (a4, b4) :: (C, oC) :: (D, lst zs) :: news) s'') E' { s with heap := h, toks := tk }
inductive ZW (prog : Program) (w : World) (A : Around) (z TI TO i1 i2 l1 l2 : Addr) (xs ys : Array Value) : Prop
  | mk (Pt : Nat → Array Value → Prop) (St : Nat → Heap → Prop) (Mid : Nat → Addr → Heap → Prop) (W : WalksT prog w A z [z, TI, TO, i1, i2, l1, l2] [z, TO, i1, i2] (min xs.size ys.size) Pt St Mid)
    (hP : ∀ i vals, Pt i vals → ∃ x y, xs[i]? = some x ∧ ys[i]? = some y ∧ vals = #[x, y]) (h0 : ∀ h, ZSt z TI TO i1 i2 l1 l2 xs ys 0 h → St 0 h)
    (hO : ∀ i h, St i h → ∃ oz b1 b2 b3 b4, h.get? z = some oz ∧ h.get? TI = some b1 ∧ h.get? TO = some b2 ∧ h.get? i1 = some b3 ∧ h.get? i2 = some b4) : ZW prog w A z TI TO i1 i2 l1 l2 xs ys
theorem zw {prog : Program} {w : World} {A : Around} {z TI TO i1 i2 l1 l2 : Addr} {xs ys : Array Value} (hh : A.handled = none) (D : ZipApart z TI TO i1 i2 l1 l2) : ZW prog w A z TI TO i1 i2 l1 l2 xs ys := by
  refine .mk _ _ _ (WalksT.zip2 hh z TI TO i1 i2 l1 l2 D xs ys) (fun i vals h => h) (fun h x => x) fun i h st => ?_
  obtain ⟨g1, g2, ⟨ga, gb, g3⟩, ⟨o4, g4, _⟩, ⟨o5, g5, _⟩, _, _⟩ := st
  exact ⟨_, _, _, _, _, g1, g2, g3, g4, g5⟩
inductive ZipSrc (prog : Program) (w : World) (A : Around) (h₀ : Heap) (L : Addr) (m : Str → Option Value) (env : Env) (elt : Expr) (x x₂ : Str) (scope : Scope) (cl : List (Str × Addr)) (y : Str) (Q : Flow → Shared → Prop) (xv : Value) (s₁ : Shared) : Prop
  | mk (z TI TO i1 i2 l1 l2 : Addr) (xs ys : Array Value) (p1 p2 : Obj) (news : List (Addr × Obj)) (J : Nat → List Value → Prop) (e : xv = .ref z) (hh : A.handled = none) (D : ZipApart z TI TO i1 i2 l1 l2) (st : ZSt z TI TO i1 i2 l1 l2 xs ys 0 s₁.heap) (F : Fr h₀ L s₁.heap m)
    (N : News h₀ L s₁.heap news) (h1 : (l1, p1) ∈ news) (h2 : (l2, p2) ∈ news) (hB : ∀ a ∈ [z, TI, TO, i1, i2], (∀ p ∈ news, @LT.lt Nat _ p.1 a) ∧ @LT.lt Nat _ L a ∧ @LE.le Nat _ h₀.objs.size a ∧ @LT.lt Nat _ a s₁.heap.objs.size) (hz : min xs.size ys.size ≤ sizeLine) (hJ : J 0 [])
    (ht : ZipTurns prog w A h₀ L m env elt x x₂ scope cl s₁ news xs ys J)
    (hf : ∀ D h tk zs, J (min xs.size ys.size) zs → Fr h₀ L h (fun z => if z = y then some (.ref D) else m z) → News h₀ L h ((D, lst zs) :: news) → Off1 D news → Q .next { s₁ with heap := h, toks := tk }) : ZipSrc prog w A h₀ L m env elt x x₂ scope cl y Q xv s₁
section
variable {prog : Program} {w : World} {A : Around} {E : Value → Shared → Prop} {s : Shared} {h₀ : Heap} {L : Addr} {m : Str → Option Value} {env : Env}
theorem zipSrc {elt : Expr} {x x₂ y : Str} {scope : Scope} {cl : List (Str × Addr)} {Q : Flow → Shared → Prop} {l1 l2 : Addr} {n1 n2 : Nat} {xs ys : List Value} {news : List (Addr × Obj)} (J : Nat → List Value → Prop)
    (hh : A.handled = none) (F : Fr h₀ L s.heap m) (N : News h₀ L s.heap news) (hm1 : (l1, listOf xs.toArray n1) ∈ news) (hm2 : (l2, listOf ys.toArray n2) ∈ news) (hz : xs.length ≤ 1000) (hJ : J 0 [])
    (turns : ∀ g, ZipTurns prog w A h₀ L m env elt x x₂ scope cl { s with heap := g } news xs.toArray ys.toArray J)
    (fin : ∀ D h tk zs, J (min xs.length ys.length) zs → Fr h₀ L h (fun z => if z = y then some (.ref D) else m z) → News h₀ L h ((D, lst zs) :: news) → Off1 D news → Q .next { s with heap := h, toks := tk }) :
    wpAny (model prog w) A (call (.type "zip") [.ref l1, .ref l2]) (ZipSrc prog w A h₀ L m env elt x x₂ scope cl y Q) E s := by
  have a1 : l1 < s.heap.objs.size := Heap.lt_size (N _ hm1).1
  have a2 : l2 < s.heap.objs.size := Heap.lt_size (N _ hm2).1
  have hab : @LE.le Nat _ h₀.objs.size L := F.above
  have hL : @LT.lt Nat _ L s.heap.objs.size := F.ns.lt
  refine call_zip_2 (N.isList hm1) (N.isList hm2) fun h' hz' hTI hTO hi1 hi2 hsz hk => ?_
  refine ⟨_, _, _, _, _, l1, l2, xs.toArray, ys.toArray, _, _, news, J, rfl, hh, zipApart_new a1 a2, ⟨hz', hTI, ⟨_, _, hTO⟩, hi1, hi2, Heap.IsList.at (N.isList hm1) (fun o e => hk _ o e), Heap.IsList.at (N.isList hm2) (fun o e => hk _ o e)⟩, F.keeps hk, N.grown hk, hm1, hm2, fun a ha => ?_, ?_, hJ, turns h', fun D h tk zs hJ' => fin D h tk zs (by simpa using hJ')⟩
  · have : @LE.le Nat _ s.heap.objs.size a ∧ @LT.lt Nat _ a (s.heap.objs.size + 5) := by
      simp only [List.mem_cons, List.not_mem_nil, or_false] at ha
      rcases ha with rfl | rfl | rfl | rfl | rfl <;> constructor <;> (show @LE.le Nat _ _ _) <;> omega
    refine ⟨fun p hp => ?_, ?_, ?_, ?_⟩
    · have h1 : @LT.lt Nat _ p.1 s.heap.objs.size := Heap.lt_size (N p hp).1
      omega
    · omega
    · omega
    · show @LT.lt Nat _ a h'.objs.size
      rw [hsz]; omega
  · have h3 : sizeLine = 16777216 := rfl
    simp; omega
theorem Assign_zipComp {elt iter : Expr} {x x₂ y : Str} {px px₂ tp py : Pos} {tk0} {scope : Scope} {cl : List (Str × Addr)} {pos spos : Pos} {Q : Flow → Shared → Prop} (F₀ : Fr h₀ L s.heap m) (hLe : env.locals = L)
    (hsw : swapsWith (.ListComp elt [⟨.Tuple [.Name x px, .Name x₂ px₂] tk0 tp, iter, [], 0⟩] scope pos) (some (.Name y py)) spos.line env = pure true)
    (hclos : closureFor scope env = pure cl) (hcell : ∀ z ∈ scope.names, z.2 ≠ .cell) (hkind : scope.kind = .function)
    (hnames : ∀ z ∈ scope.names, z.2 = .local → scope.names.lookup z.1 = some .local) (hx : scope.names.lookup x = some .local) (hx₂ : scope.names.lookup x₂ = some .local) (hxx : x ≠ x₂)
    (hy : env.kindOf y = some .local) (hp : (env.scope.kind == .class || (env.scope.kind == .module && env.locals != env.globals)) = false)
    (h : wpAny (model prog w) A (eval iter env) (ZipSrc prog w A h₀ L m env elt x x₂ scope cl y Q) E s)
    (hs : ∀ x, foldedSetIterable iter env x = pure x := by intro _; rfl) :
    wpAny (model prog w) A (exec (.Assign [.Name y py] (.ListComp elt [⟨.Tuple [.Name x px, .Name x₂ px₂] tk0 tp, iter, [], 0⟩] scope pos) spos) env) Q E s := by
  subst hLe
  rw [exec_Assign_Name_used _ _ _ _ hsw]
  refine wpAny_bind (wpAny_standAt (wpAny_bind ?_))
  show wpAny _ A (do let _ ← comprehension (.ListComp elt [⟨.Tuple [.Name x px, .Name x₂ px₂] tk0 tp, iter, [], 0⟩] scope pos) scope env _ (newList []) false (eval iter env) (some (assign (.Name y py) env))) _ _ s
  refine wpAny_bind (wpAny_mono (wpAny_comprehension_free (use := some (assign (.Name y py) env)) (Q := fun _ s' => Q .next s') rfl hs hclos hkind hnames
    (wpAny_mono h (fun xv s₁ h₁ => ?_) fun _ _ e => e)) (fun _ s' hq => wpAny_pure (wpAny_pure hq)) fun _ _ e => e)
  obtain ⟨z, TI, TO, i1, i2, l1, l2, xs, ys, p1, p2, news, J, rfl, hh, D9, st0, F, N, hm1, hm2, hB, hsz, hJ, turns, fin⟩ := h₁
  refine wpAny_pyIter_zip st0.1 ?_
  obtain ⟨Pt, St, Mid, W, hPt, hS0, hO⟩ := zw (prog := prog) (w := w) (A := A) (xs := xs) (ys := ys) hh D9
  replace st0 := hS0 _ st0
  clear hS0 D9
  refine wpAny_newObj_type (wpAny_newFunctionEnv hcell (by intro y hy; simp at hy) (fun h₁ hns₁ hsb₁ => ?_) hkind)
  dsimp only at hns₁ hsb₁ ⊢
  generalize hH2 : s₁.heap.push { cls := .type "list", dict := none, data := .seq ([] : List Value).toArray } = H2 at hns₁ hsb₁ ⊢
  generalize hD : s₁.heap.objs.size = D at hB ⊢
  have hC : H2.objs.size = D + 1 := by rw [← hH2, Heap.size_push, hD]
  generalize hCC : H2.objs.size = C at hC hns₁ hsb₁ ⊢
  have hLD : @LT.lt Nat _ env.locals D := hD ▸ F.ns.lt
  have hab : @LE.le Nat _ h₀.objs.size env.locals := F.above
  have hnD : ∀ p ∈ news, @LT.lt Nat _ p.1 D := fun p hp => hD ▸ (Heap.lt_size (N p hp).1 : @LT.lt Nat _ p.1 _)
  have hC' : @Eq Nat C (D + 1) := hC
  have old : ∀ b o, s₁.heap.get? b = some o → h₁.get? b = some o := fun b o e => by
    have h1 : @LT.lt Nat _ b s₁.heap.objs.size := Heap.lt_size e
    rw [hD] at h1
    refine hsb₁.extBut b o (fun q => ?_) (Heap.get?_push_of_some _ (hH2 ▸ Heap.get?_push_of_some _ e))
    have q' : @Eq Nat _ _ := q
    omega
  have hacc : h₁.get? D = some (lst []) := by
    refine hsb₁.extBut _ _ (fun q => ?_) (Heap.get?_push_of_some _ (hH2 ▸ hD ▸ Heap.get?_push_size _ rfl))
    have q' : @Eq Nat _ _ := q
    omega
  have above₀ : ∀ a : Addr, @LE.le Nat _ h₀.objs.size a → h₀.get? a = none := fun a ha => by
    cases e : h₀.get? a with
    | none => rfl
    | some o' =>
      have h1 : @LT.lt Nat _ a h₀.objs.size := Heap.lt_size e
      omega
  have neL : ∀ a : Addr, @LT.lt Nat _ env.locals a → a ≠ env.locals := fun a ha e => by
    have e' : @Eq Nat _ _ := e
    omega
  have hCL : C ≠ env.locals := neL C (by omega)
  have hDL : D ≠ env.locals := neL D hLD
  have hC₀ : h₀.get? C = none := above₀ C (by omega)
  have hD₀ : h₀.get? D = none := above₀ D (by omega)
  have hDC : D ≠ C := fun q => by
    have q' : @Eq Nat _ _ := q
    omega
  have bw : ∀ b : Addr, b ∈ [z, TO, i1, i2] → b ∈ [z, TI, TO, i1, i2] := fun b hb => by
    simp only [List.mem_cons, List.not_mem_nil, or_false] at hb ⊢
    rcases hb with rfl | rfl | rfl | rfl <;> simp
  have offw : ∀ b : Addr, @LT.lt Nat _ b h₀.objs.size ∨ b = env.locals ∨ (∃ p ∈ news, p.1 = b) ∨ @LE.le Nat _ D b → b ∉ [z, TO, i1, i2] := fun b hb hm => by
    obtain ⟨q1, q2, q3, q4⟩ := hB b (bw b hm)
    rcases hb with hb | hb | ⟨p, hp, hb⟩ | hb
    · omega
    · have e' : @Eq Nat _ _ := hb; omega
    · have := q1 p hp; have e' : @Eq Nat _ _ := hb; omega
    · omega
  have hCw : C ∉ [z, TO, i1, i2] := offw C (.inr (.inr (.inr (by omega))))
  have hDw : D ∉ [z, TO, i1, i2] := offw D (.inr (.inr (.inr (Nat.le_refl _))))
  have offC : ∀ b : Addr, b ∈ [z, TI, TO, i1, i2, l1, l2] → b ≠ C ∧ b ≠ D := fun b hb => by
    have : @LT.lt Nat _ b D := by
      have hl1 := hnD _ hm1
      have hl2 := hnD _ hm2
      by_cases h1 : b ∈ [z, TI, TO, i1, i2]
      · exact (hB b h1).2.2.2
      · simp only [List.mem_cons, List.not_mem_nil, or_false] at hb h1
        rcases hb with rfl | rfl | rfl | rfl | rfl | rfl | rfl
        all_goals first | exact hl1 | exact hl2 | exact absurd (by simp) h1
    constructor <;> (intro e; have e' : @Eq Nat _ _ := e; omega)
  have st1 : St 0 h₁ := W.frame _ _ _ st0 fun b _ o e => old b o e
  refine codeAny_compStart_list (?lp) (W.self 0 _ _ _ st1 ?lp)
  case lp =>
    show codeAny (model prog w) A (.compLoop (.ListComp elt [⟨.Tuple [.Name x px, .Name x₂ px₂] tk0 tp, iter, [], 0⟩] scope pos) 0 (.ref z) (.ref D) (compEnvC scope cl C env)) _ _
    generalize hn : min xs.size ys.size = n at hsz fin W
    refine LCp.codeAny_compLoop_pair
      (fun k s' => Ex5 fun h' tk i zs m' => An9 (s' = { s₁ with heap := h', toks := tk }) (i ≤ n) (k = n + 1 - i) (zs.length = i) (St i h') (Fr h₀ env.locals h' m) (h'.Ns C m') (News h₀ env.locals h' ((D, lst zs) :: news)) (J i zs)) ?_ (n + 1)
      ⟨h₁, _, 0, [], _, rfl, Nat.zero_le _, rfl, rfl, st1, F.keeps old, hns₁, fun p hp => ?_, hJ⟩
    · rintro k s' ⟨h', tk, i, zs, m', rfl, hi, rfl, hzl, hst', F', hn', N', hJ'⟩
      by_cases hlt : i < n
      · refine W.item i _ _ _ hlt hst' fun T vals h₂ tk₂ hP hTge hT hMid hk₂ => ?_
        obtain ⟨vx, vy, hvx, hvy, rfl⟩ := hPt _ _ hP
        have hTw := W.apart _ _ _ hMid
        refine W.go _ _ _ i T _ _ _ hMid fun h₃ hst₃ hk₃ => ?_
        have hT₃ : h₃.IsTuple T #[vx, vy] := by
          obtain ⟨o, e, r⟩ := hT
          exact ⟨o, hk₃ _ _ hTw e, r⟩
        refine assign_Tuple_tuple hh hT₃ rfl rfl fun h₅ he => ?_
        have he' : ∀ b o, h₃.get? b = some o → h₅.get? b = some o := fun b o e => he b o (Nat.ne_of_lt (Heap.lt_size e)) e
        have kA : ∀ b o, b ∉ [z, TO, i1, i2] → h'.get? b = some o → h₅.get? b = some o := fun b o hb e => he' _ _ (hk₃ b o hb (hk₂ b o hb e))
        refine assignInOrder_cons (wpAny_assign_Name (wpAny_storeName_local (lookup_relabel_local hx) (hn'.at' fun o e => kA _ o hCw e) (fun h₆ hn₆ hs₆ => ?_) (by simp [compEnvC, relabel, hkind])))
        refine assignInOrder_cons (wpAny_assign_Name (wpAny_storeName_local (lookup_relabel_local hx₂) hn₆ (fun h₇ hn₇ hs₇ => ?_) (by simp [compEnvC, relabel, hkind])))
        refine assignInOrder_nil ?_
        have k57 : ∀ b o, b ≠ C → h₅.get? b = some o → h₇.get? b = some o := fun b o hb e => hs₇.extBut b o hb (hs₆.extBut b o hb e)
        have kB : ∀ b o, b ∉ [z, TO, i1, i2] → b ≠ C → h'.get? b = some o → h₇.get? b = some o := fun b o hb hc e => k57 b o hc (kA b o hb e)
        have st₇ : St (i + 1) h₇ := W.frame _ _ _ hst₃ fun b hb o e => k57 b o (offC b hb).1 (he' b o e)
        have F₇ : Fr h₀ env.locals h₇ m := ⟨F'.ns.at' fun o e => kB _ o (offw _ (.inr (.inl rfl))) (Ne.symm hCL) e, fun b o e => kB b o (offw b (.inl (Heap.lt_size e))) (fun q => by
          have h1 : @LT.lt Nat _ b h₀.objs.size := Heap.lt_size e
          have q' : @Eq Nat _ _ := q
          omega) (F'.keep b o e), F'.above⟩
        obtain ⟨oC, heC, hoC⟩ := ns_obj hn₇
        have nC : ∀ p ∈ news, p.1 ≠ C := fun p hp q => by
          have := hnD p hp
          have q' : @Eq Nat _ _ := q
          omega
        have nD : ∀ p ∈ news, p.1 ≠ D := fun p hp q => by
          have := hnD p hp
          have q' : @Eq Nat _ _ := q
          omega
        obtain ⟨oz, oI, oO, o4, o5, g1, g2, g3, g4, g5⟩ := hO _ _ st₇
        have new : ∀ (a : Addr) (o : Obj), a ∈ [z, TI, TO, i1, i2] → h₇.get? a = some o → h₇.get? a = some o ∧ a ≠ env.locals ∧ h₀.get? a = none := fun a o ha e => by
          obtain ⟨q1, q2, q3, q4⟩ := hB a ha
          exact ⟨e, neL a q2, above₀ a q3⟩
        have N₇ : News h₀ env.locals h₇ ((z, oz) :: (TI, oI) :: (TO, oO) :: (i1, o4) :: (i2, o5) :: (C, oC) :: (D, lst zs) :: news) := fun p hp => by
          rcases List.mem_cons.mp hp with rfl | hp
          · exact new z _ (by simp) g1
          rcases List.mem_cons.mp hp with rfl | hp
          · exact new TI _ (by simp) g2
          rcases List.mem_cons.mp hp with rfl | hp
          · exact new TO _ (by simp) g3
          rcases List.mem_cons.mp hp with rfl | hp
          · exact new i1 _ (by simp) g4
          rcases List.mem_cons.mp hp with rfl | hp
          · exact new i2 _ (by simp) g5
          rcases List.mem_cons.mp hp with rfl | hp
          · exact ⟨heC, hCL, hC₀⟩
          rcases List.mem_cons.mp hp with rfl | hp
          · exact ⟨kB _ _ hDw hDC (N' _ (.head _)).1, hDL, hD₀⟩
          · have zz := N' p (.tail _ hp)
            exact ⟨kB _ _ (offw _ (.inr (.inr (.inl ⟨p, hp, rfl⟩)))) (nC p hp) zz.1, zz.2⟩
        refine wpAny_mono (turns i zs vx vy hvx hvy hJ' z oz TI oI TO oO i1 o4 i2 o5 C oC _ D h₇ _ _ hoC (by simp [hxx]) (by simp) F₇ N₇) (fun yv s₈ h₈ => ?_) fun _ _ e => e
        obtain ⟨hJ₈, h₈, tk₈, rfl, F₈, N₈⟩ := h₈
        have k78 : ∀ b o, b ∈ [z, TI, TO, i1, i2, l1, l2] → h₇.get? b = some o → h₈.get? b = some o := fun b o hb e => by
          have both : ∀ o', (b, o') ∈ ((z, oz) :: (TI, oI) :: (TO, oO) :: (i1, o4) :: (i2, o5) :: (C, oC) :: (D, lst zs) :: news : List (Addr × Obj)) → h₈.get? b = some o := fun o' hm => by
            have q1 := (N₇ _ hm).1
            have q2 := (N₈ _ hm).1
            rw [e] at q1
            rw [q1]; exact q2
          simp only [List.mem_cons, List.not_mem_nil, or_false] at hb
          rcases hb with rfl | rfl | rfl | rfl | rfl | rfl | rfl
          · exact both _ (.head _)
          · exact both _ (.tail _ (.head _))
          · exact both _ (.tail _ (.tail _ (.head _)))
          · exact both _ (.tail _ (.tail _ (.tail _ (.head _))))
          · exact both _ (.tail _ (.tail _ (.tail _ (.tail _ (.head _)))))
          · exact both _ (.tail _ (.tail _ (.tail _ (.tail _ (.tail _ (.tail _ (.tail _ hm1)))))))
          · exact both _ (.tail _ (.tail _ (.tail _ (.tail _ (.tail _ (.tail _ (.tail _ hm2)))))))
        have st₈ : St (i + 1) h₈ := W.frame _ _ _ st₇ fun b hb o e => k78 b o hb e
        have zC := (N₈ (C, oC) (.tail _ (.tail _ (.tail _ (.tail _ (.tail _ (.head _))))))).1
        have zD := (N₈ (D, lst zs) (.tail _ (.tail _ (.tail _ (.tail _ (.tail _ (.tail _ (.head _)))))))).1
        refine append_at (hsz := by show zs.toArray.size ≤ sizeLine; rw [List.size_toArray, hzl]; exact Nat.le_trans hi hsz) zD fun h₉ hs₉ hD₉ => ?_
        refine ⟨n + 1 - (i + 1), by omega, h₉, tk₈, i + 1, zs ++ [yv], _, rfl, hlt, rfl, by rw [List.length_append, List.length_singleton, hzl], W.frame _ _ _ st₈ fun b hb o e => hs₉.extBut b o (offC b hb).2 e, F₈.change hs₉ hDL hD₀,
          (hoC.ns zC).sameBut hs₉ (Ne.symm hDC), fun p hp => ?_, hJ₈⟩
        rcases List.mem_cons.mp hp with rfl | hp
        · exact ⟨hD₉.trans (congrArg some (lst_snoc zs yv)), hDL, hD₀⟩
        · have zz := N₈ p (.tail _ (.tail _ (.tail _ (.tail _ (.tail _ (.tail _ (.tail _ hp)))))))
          exact ⟨hs₉.extBut _ _ (nD p hp) zz.1, zz.2⟩
      · obtain rfl : i = n := Nat.le_antisymm hi (Nat.not_lt.mp hlt)
        refine W.done _ _ _ hst' fun h₂ tk₂ hk₂ => ?_
        show wpAny _ A (assign (.Name y py) env (.ref D)) _ _ _
        have F₂ : Fr h₀ env.locals h₂ m := ⟨F'.ns.at' fun o e => hk₂ _ o (offw _ (.inr (.inl rfl))) e, fun b o e => hk₂ b o (offw b (.inl (Heap.lt_size e))) (F'.keep b o e), F'.above⟩
        have N₂ : News h₀ env.locals h₂ ((D, lst zs) :: news) := fun p hp => by
          have zz := N' p hp
          refine ⟨hk₂ _ _ ?_ zz.1, zz.2⟩
          rcases List.mem_cons.mp hp with rfl | hp
          · exact hDw
          · exact offw _ (.inr (.inr (.inl ⟨p, hp, rfl⟩)))
        refine wpAny_assign_Name (wpAny_storeName_local hy F₂.ns (fun h₃ hn₃ hs₃ => ?_) hp)
        have hL₀ : h₀.get? env.locals = none := Heap.get?_none_of_le F₂.above
        have F₃ : Fr h₀ env.locals h₃ (fun z => if z = y then some (.ref D) else m z) := ⟨hn₃, fun b o e => hs₃.extBut b o (fun q => by rw [q, hL₀] at e; cases e) (F₂.keep b o e), F₂.above⟩
        have hn₂ : h₂.Ns C m' := hn'.at' fun o e => hk₂ _ o hCw e
        refine ⟨m', hn₂.sameBut hs₃ hCL, fun h'' hs'' => fin D h'' _ zs hJ' (F₃.change hs'' hCL hC₀) (fun p hp => ?_) (off1_of fun p hp q => ?_)⟩
        · have zz : h₃.get? p.1 = some p.2 := hs₃.extBut _ _ (N₂ p hp).2.1 (N₂ p hp).1
          refine ⟨hs''.extBut _ _ ?_ zz, (N₂ p hp).2⟩
          rcases List.mem_cons.mp hp with rfl | hp
          · exact hDC
          · intro q
            have := hnD p hp
            have q' : @Eq Nat p.1 C := q
            omega
        · have := hnD p hp
          have q' : @Eq Nat _ _ := q
          omega
    · rcases List.mem_cons.mp hp with rfl | hp
      · exact ⟨hacc, neL D hLD, hD₀⟩
      · exact ⟨old _ _ (N p hp).1, (N p hp).2⟩
end
end Mine
end

section
open PySem PySem.W PySem.Calls PyProof.Rows PyProof.Rows.LCg
set_option maxRecDepth 100000
set_option maxHeartbeats 8000000
set_option linter.unusedVariables false
namespace Mine
abbrev lwM (a1 a2 a3 a4 a5 a6 a7 a8 : Option Value) : Str → Option Value := fun y => if y = S "script" then a1 else if y = S "numbers" then a2 else if y = S "text" then a3 else if y = S "told" then a4 else if y = S "word" then a5 else if y = S "row" then a6 else if y = S "cuts" then a7 else if y = S "due" then a8 else none
theorem lw_none {a1 a2 a3 a4 a5 a6 a7 a8 : Option Value} {y : Str} (k1 : y ≠ S "script") (k2 : y ≠ S "numbers") (k3 : y ≠ S "text") (k4 : y ≠ S "told") (k5 : y ≠ S "word") (k6 : y ≠ S "row") (k7 : y ≠ S "cuts") (k8 : y ≠ S "due") : lwM a1 a2 a3 a4 a5 a6 a7 a8 y = none := by
  simp only [lwM, if_neg k1, if_neg k2, if_neg k3, if_neg k4, if_neg k5, if_neg k6, if_neg k7, if_neg k8]
theorem ext_lw {m m' : Str → Option Value} (h1 : m (S "script") = m' (S "script")) (h2 : m (S "numbers") = m' (S "numbers")) (h3 : m (S "text") = m' (S "text")) (h4 : m (S "told") = m' (S "told")) (h5 : m (S "word") = m' (S "word")) (h6 : m (S "row") = m' (S "row")) (h7 : m (S "cuts") = m' (S "cuts")) (h8 : m (S "due") = m' (S "due"))
    (ho : ∀ y, y ≠ S "script" → y ≠ S "numbers" → y ≠ S "text" → y ≠ S "told" → y ≠ S "word" → y ≠ S "row" → y ≠ S "cuts" → y ≠ S "due" → m y = m' y) : m = m' := by
  funext y
  by_cases k1 : y = S "script"
  · rw [k1, h1]
  by_cases k2 : y = S "numbers"
  · rw [k2, h2]
  by_cases k3 : y = S "text"
  · rw [k3, h3]
  by_cases k4 : y = S "told"
  · rw [k4, h4]
  by_cases k5 : y = S "word"
  · rw [k5, h5]
  by_cases k6 : y = S "row"
  · rw [k6, h6]
  by_cases k7 : y = S "cuts"
  · rw [k7, h7]
  by_cases k8 : y = S "due"
  · rw [k8, h8]
  exact ho y k1 k2 k3 k4 k5 k6 k7 k8
def numsOf (script : List Int) : List Nat := (script.take 4).map (fun x => (x.fmod 1536).toNat) ++ [652, 92, 957, 418]
theorem nums_lt (script : List Int) : ∀ x ∈ numsOf script, x < 1536 := by
  intro x hx
  unfold numsOf at hx
  rcases List.mem_append.mp hx with hx | hx
  · obtain ⟨a, _, rfl⟩ := List.mem_map.mp hx
    have h1 := Int.fmod_lt_of_pos a (b := 1536) (by decide)
    have h2 := Int.fmod_nonneg_of_pos a (b := 1536) (by decide)
    omega
  · simp at hx; omega
theorem nums_ints (script : List Int) : (List.take 4 script).map (fun k => k.fmod 1536) ++ [652, 92, 957, 418] = (numsOf script).map Int.ofNat := by
  unfold numsOf
  rw [List.map_append, List.map_map]
  congr 1
  refine List.map_congr_left fun a _ => ?_
  have h2 := Int.fmod_nonneg_of_pos a (b := 1536) (by decide)
  show a.fmod 1536 = (((a.fmod 1536).toNat : Nat) : Int)
  omega
theorem nums_len (script : List Int) : 4 ≤ (numsOf script).length ∧ (numsOf script).length ≤ 8 := by
  unfold numsOf; simp; omega
abbrev wordZ (x : Nat) : Str := ofL (wordL x)
abbrev IAre := @PyProof.Rows.IntsAre
def HM : Prop := True
local macro_rules | `(tactic| k_ne) => `(tactic| first | assumption | (refine Ne.symm ?_; assumption))
local macro_rules | `(tactic| walk_at "zHold") => `(tactic| ((have _hm : HM := by assumption); with_reducible refine hold ?_))
local macro_rules | `(tactic| walk_at "zHM") => `(tactic| (k_here; (have _hm : HM := by assumption)))
local macro_rules | `(tactic| walk_at "CompSrc") => `(tactic| (walk_at "zHold"))
local macro_rules | `(tactic| walk_at "eval Name") => `(tactic| (k_here; (with_reducible show wpAny _ _ (eval (Expr.Name (PySem.Str.ofString "lexer") _) (compEnvC _ _ _ _)) _ _ _); (refine nameComp (by k_asm) rfl (by k_mem) (by assumption) (by kernel_rfl) (by kernel_rfl) (by decide +kernel) ?_)))
local macro_rules | `(tactic| walk_at "CompSrcT") => `(tactic| (walk_at "zHold"))
local macro_rules | `(tactic| walk_at "eval Name") => `(tactic| (walk_at "zHM"; (first | with_reducible show wpAny _ _ (eval (Expr.Name (PySem.Str.ofString "codes") _) (compEnvC _ _ _ _)) _ _ _ | with_reducible show wpAny _ _ (eval (Expr.Name (PySem.Str.ofString "i") _) (compEnvC _ _ _ _)) _ _ _ | with_reducible show wpAny _ _ (eval (Expr.Name (PySem.Str.ofString "words") _) (compEnvC _ _ _ _)) _ _ _); (refine nameComp (by k_asm) rfl (by k_mem) (by assumption) (by kernel_rfl) (by kernel_rfl) (by decide +kernel) ?_)))
local macro_rules | `(tactic| walk_at "subscriptTail Name Slice ref ref") => `(tactic| (walk_at "zHM"; (with_reducible show wpAny _ _ (subscriptTail _ (PySem.Expr.Slice (some _) none none _) (Value.ref _) (Value.ref _)) _ _ _); k_dflt (first
  | (refine fromK (by k_asm) (by k_asm) (by k_mem) (by assumption) (by first | assumption | omega) ?_ (by with_unfolding_all rfl) (by intro _; with_unfolding_all rfl); intro D' ws' h' F' N' l1 hI' hW')
  | (refine fromK (i := 1) (by k_asm) (by k_asm) (by k_mem) (by assumption) (by first | assumption | omega) ?_ (by with_unfolding_all rfl) (by intro _; with_unfolding_all rfl); intro D' ws' h' F' N' l1 hI' hW')); k_lt l1))
local macro_rules | `(tactic| walk_at "subscriptTail Name Slice ref ref") => `(tactic| (walk_at "zHM"; (with_reducible show wpAny _ _ (subscriptTail _ (PySem.Expr.Slice (some _) (some _) none _) (Value.ref _) (Value.ref _)) _ _ _); k_dflt (refine runK (by k_asm) (by k_asm) (by k_mem) (by assumption) (by assumption) (by assumption) ?_ (by with_unfolding_all rfl) (by intro _; with_unfolding_all rfl); intro D' ws' h' F' N' l1 hI'); k_lt l1))
local macro_rules | `(tactic| walk_at "call type:zip") => `(tactic| (walk_at "zHold"))
local macro_rules | `(tactic| walk_at "compareOp LtE ref ref") => `(tactic| (walk_at "zHM"; k_dflt (refine leK (by k_asm) (by k_mem) (by k_mem) (by assumption) (by assumption) (by simp only [units_deeper]; (try dsimp only); omega) ?_)))
local macro_rules | `(tactic| walk_at "compareOp Eq ref ref") => `(tactic| (walk_at "zHM"; k_dflt (first
  | (refine eqNilK (by k_asm) (by k_mem) (by k_mem) (by assumption) (by simp only [units_deeper]; (try dsimp only); omega) ?_)
  | with_reducible refine hold ?_)))
local macro_rules | `(tactic| walk_at "binaryOp Mult ref int") => `(tactic| (walk_at "zHold"))
local macro_rules | `(tactic| walk_at "eval ListComp") => `(tactic| (walk_at "zHM"; lct_look; k_dflt (refine LCt.ListComp_T (F₀ := by k_asm) (by with_unfolding_all rfl) (by decide) (by rfl) (by decide) (by rfl) ?_)))
local macro_rules | `(tactic| walk_at "call builtin:len") => `(tactic| (k_here; (with_reducible show wpAny _ _ (call (Value.builtin "len") [Value.ref _]) _ _ _); k_dflt (refine lenK (by k_asm) (by k_mem) (by assumption) (by first | assumption | omega) ?_); intro t' tk'))
local macro_rules | `(tactic| walk_at "exec Assign cons ListComp") => `(tactic| ((have _hm : HM := by assumption); k_dflt (refine LCg.Assign_ListComp_U (F₀ := by k_asm) (by rfl) (by with_unfolding_all rfl) (by with_unfolding_all rfl) (by decide) (by rfl) (by decide) (by rfl) (by rfl) (by rfl) ?_)))
local macro_rules | `(tactic| walk_at "call ref") => `(tactic| (k_here; k_dflt (first
  | (refine wordE (by assumption) (by assumption) (by k_asm) (by k_asm) rfl rfl (by assumption) (by omega) (by omega) ?_; intro h' tk' t' F' N')
  | (refine writtenE (by assumption) (by assumption) (by k_asm) (by k_asm) rfl rfl (by assumption) (by omega) (by omega) ?_; intro h' tk' t' F' N')
  | (walk_at "zHold"))))
local macro_rules | `(tactic| walk_at "call builtin:str.join") => `(tactic| (k_here; k_dflt (refine joinK (by k_asm) (by k_mem) (by assumption) (by assumption) ?_); intro t' k'))
local macro_rules | `(tactic| walk_at "binaryOp Add ref ref") => `(tactic| (k_here; (with_reducible show wpAny _ _ (binaryOp _ (Value.ref _) (Value.ref _)) _ _ _); (have _hm : HM := by assumption); k_dflt (refine addK (by k_asm) (by k_asm) (by k_mem) (by k_mem) (by (try simp only [List.length_cons, List.length_nil, List.length_replicate]); first | assumption | omega) ?_); intro D' h' F' N' l1; k_lt l1))
local macro_rules | `(tactic| walk_at "compareOp NotEq ref ref") => `(tactic| (k_here; (with_reducible show wpAny _ _ (compareOp _ (Value.ref _) (Value.ref _)) _ _ _); (have _hm : HM := by assumption); with_reducible refine hold ?_))
theorem writ_len (x : Nat) : (writL x).length ≤ 20 := by
  have h1 := flat_e x 32
  have h2 := flat_e x 34
  have h3 := flat_a x
  unfold writL
  split
  · simp [List.flatMap] at h1 ⊢; omega
  · split
    · simp [List.flatMap] at h3 ⊢; omega
    · simp [List.flatMap] at h2 ⊢; omega
theorem flat_writ : ∀ ns : List Nat, (ns.map writL).flatten.length ≤ 20 * ns.length
  | [] => by simp
  | n :: ns => by have := flat_writ ns; have := writ_len n; simp only [List.map_cons, List.flatten_cons, List.length_append, List.length_cons]; omega
theorem writ_small (x : Nat) : ∀ c ∈ writL x, c < 128 := by
  have hg : gapN x < 128 := by unfold gapN; split <;> decide
  have hw := word_small x
  have he : ∀ q c, q < 128 → c ∈ (wordL x).flatMap (escN q) → c < 128 := fun q c hq hc => by
    obtain ⟨a, ha, hc⟩ := List.mem_flatMap.mp hc
    unfold escN at hc
    split at hc
    · simp at hc; rcases hc with rfl | rfl
      · decide
      · exact hw _ ha
    · simp at hc; rw [hc]; exact hw _ ha
  intro c hc
  unfold writL at hc
  split at hc
  · rcases List.mem_append.mp hc with hc | hc
    · exact he 32 c (by decide) hc
    · simp at hc; omega
  · split at hc
    · rcases List.mem_append.mp hc with hc | hc
      · obtain ⟨a, ha, hc⟩ := List.mem_flatMap.mp hc
        simp at hc; rcases hc with rfl | rfl
        · decide
        · exact hw _ ha
      · simp at hc; omega
    · simp only [List.mem_append, List.mem_cons, List.not_mem_nil, or_false] at hc
      rcases hc with ((rfl | hc) | rfl) | rfl
      · decide
      · exact he 34 c (by decide) hc
      · decide
      · exact hg
theorem smallA {la : Int} {a b n : Nat} (h : la + (a : Int) = 1 + (b : Int)) (hb : b ≤ n) (hn : n ≤ 160) : la < 900000 := by omega
theorem law_c {w : World} {b₀ : Heap} {dp un : Nat} {gd : Option (List Code)} {s : Shared} {R : Result → Shared → Prop} {sc : Addr} {svs : List Value} {script : List Int}
    (G : Gd w b₀ [] s.heap [100]) (h100 : s.heap.get? 100 = some (tabObj #[])) (hL : b₀.IsList sc svs.toArray) (hI : PyProof.Rows.IntsAre svs script) (hlen : script.length ≤ 63) (hdp : dp + 100 < recursionLimit) (hun : un + 500 < cLine)
    (ret : ∀ h' tk ps, Mod [100] s.heap h' → h'.get? 100 = some (tabObj ps) → R (.ok (.ret (.bool true))) { s with heap := h', toks := tk }) :
    codeH (model PR w) (Aw none dp [] gd un) (.call (.ref 124) ⟨[.ref sc], []⟩) R s := by
  have Xs := G.X.keeps G.st
  refine' enterCH (binds := [(S "script", .ref sc)]) (fps := [(100, tabObj #[])]) (Φ := fun v' h' => ∃ ps, v' = .bool true ∧ h'.get? 100 = some (tabObj ps)) G ?hfp (Xs _ _ ?ho) ?hcd ?hr ?hb ?hl ?hnd ?body ?ret ?c1 ?c2 ?c3
  case ho => k_dflt k_is
  case hcd => exact codeRec_of Xs (by k_dflt k_is)
  case hr => omega
  case hb => exact BindsTo.of_eq rfl
  case hl => exact rfl
  case hnd => decide +kernel
  case c1 => rfl
  case c2 => rfl
  case c3 => rfl
  · intro q hq; simp only [List.mem_cons, List.not_mem_nil, or_false] at hq; rcases hq with rfl; exact h100
  · intro p loose mean mg mb g L' h₁ tk cells stg F N Y B X T l1
    k_lt l1
    clear ret
    k_cells Y
    simp only [List.cons_append, List.nil_append] at N
    have hLg : g.IsList sc svs.toArray := stays_list stg hL
    replace F := frEq F (show _ = lwM (some (.ref sc)) none none none none none none none from ext_lw rfl rfl rfl rfl rfl rfl rfl rfl fun y k1 k2 k3 k4 k5 k6 k7 k8 => by
      simp only [lwM, if_neg k1, if_neg k2, if_neg k3, if_neg k4, if_neg k5, if_neg k6, if_neg k7, if_neg k8]
      show (if y = S "script" then _ else _) = _
      rw [if_neg k1])
    rename_i o1 o2 o3 d1 d2 d3
    replace d1 : o1.data = .cell none := d1
    replace d2 : o2.data = .cell none := d2
    replace d3 : o3.data = .cell none := d3
    refine h_cons (wpH_any ?_)
    with_reducible refine cutQ (fun (f : Flow) (s' : Shared) => f = .next ∧ Ex5 fun h' tk nu nvs k => An5 (s' = { s with heap := h', toks := tk }) (Fr g L' h' (lwM (some (.ref sc)) (some (.ref nu)) none none none none none none)) (News g L' h' [(nu, listOf (nvs : List Value).toArray k), (L' + 1 + 1 + 1, o1), (L' + 1 + 1, o2), (L' + 1, o3), (100, tabObj #[])]) (PyProof.Rows.IntsAre nvs ((numsOf script).map Int.ofNat)) (@LT.lt Nat _ (L' + 1 + 1 + 1) nu)) ?q1 ?q1'
    case q1 =>
      intro Q hQ
      k_steps
      rename_i hI8 l8 h8 F8 N8
      refine hQ _ _ ⟨rfl, _, _, _, _, 0, rfl, frEq F8 (ext_lw rfl rfl rfl rfl rfl rfl rfl rfl fun y k1 k2 k3 k4 k5 k6 k7 k8 => ?_), (fun q hq => N8 q ?_), by rw [← nums_ints]; exact hI8, by omega⟩
      · simp only [lwM, if_neg k1, if_neg k2, if_neg k3, if_neg k4, if_neg k5, if_neg k6, if_neg k7, if_neg k8]
      · rcases List.mem_cons.mp hq with rfl | hq
        · exact .head _
        · exact .tail _ (.tail _ (.tail _ (.tail _ hq)))
    clear F N
    rintro f s' ⟨rfl, h', tk, nu, nvs, k, rfl, F, N, hnv, lnu⟩
    dsimp only
    have hnl := nums_len script
    have hnk : (numsOf script).length ≤ 1000 := Nat.le_trans hnl.2 (by decide)
    refine h_cons (wpH_any ?_)
    with_reducible refine cutQ (fun (f : Flow) (s' : Shared) => f = .next ∧ Ex6 fun h' tk wd wvs k2 o3 => An6 (s' = { s with heap := h', toks := tk }) (Fr g L' h' (lwM (some (.ref sc)) (some (.ref nu)) none none none none none none)) (News g L' h' [(wd, listOf (wvs : List Value).toArray k2), (nu, listOf (nvs : List Value).toArray k), (L' + 1 + 1 + 1, o1), (L' + 1 + 1, o2), (L' + 1, o3), (100, tabObj #[])]) (StrsAre wvs ((numsOf script).map wordZ)) (o3.data = .cell (some (.ref wd))) (Off1 wd [(nu, listOf (nvs : List Value).toArray k), (L' + 1 + 1 + 1, o1), (L' + 1 + 1, o2), (L' + 1, o3), (100, tabObj #[])])) ?q2 ?q2'
    case q2 =>
      intro Q hQ
      have hm : HM := trivial
      k_steps
      refine unhold (CompSrc.ledger rfl F N (.head _) ?z fun g' => rest_of (n := nvs.length) (fun i ys nw => nw = [(nu, listOf (nvs : List Value).toArray k), (L' + 1 + 1 + 1, o1), (L' + 1 + 1, o2), (L' + 1, o3), (100, tabObj #[])] ∧ StrsAre ys (((numsOf script).take i).map wordZ)) ?step ?fin _ 0 [] _ (by simp) ⟨rfl, .nil⟩)
      case z => exact nz11 (ints_len' hnv) hnl.2
      case step =>
        rintro i ys nw hi ⟨rfl, hys⟩ v I oI C oC D m₂ h tk E' hv hC hx F N off ne
        obtain ⟨x, t, hx1, rfl⟩ := ints_at hnv (by simpa using hv)
        have hxl : x < 1536 := nums_lt script x (List.mem_of_getElem? hx1)
        with_reducible refine cutQ (fun y s' => Ex3 fun h' tk' t' => An4 (y = Value.str (wordZ x) t') (s' = { s with heap := h', toks := tk' }) (Fr g L' h' (lwM (some (.ref sc)) (some (.ref nu)) none none none none none none)) (News g L' h' ((I, oI) :: (C, oC) :: (D, lst ys) :: [(nu, listOf (nvs : List Value).toArray k), (L' + 1 + 1 + 1, o1), (L' + 1 + 1, o2), (L' + 1, o3), (100, tabObj #[])]))) ?qa ?qb
        case qa =>
          intro Q hQ
          k_steps
          exact hQ _ _ ⟨_, _, _, rfl, rfl, by assumption, by assumption⟩
        case qb =>
          rintro y s' ⟨h', tk', t', rfl, rfl, F', N'⟩
          exact CompEnd.intro F' N' _ (fun _ h => h) off (.inr ⟨_, .head _, rfl, _, rfl⟩) ⟨rfl, strs_snoc hys hx1⟩
      case fin =>
        rintro ys nw ⟨rfl, hys⟩ D h tk F N o1'
        have o1'' := o1'
        obtain ⟨n1, n2, n3, n4, n5, _⟩ := o1''
        simp only at n1 n2 n3 n4 n5
        clear n1 n2 n3 n5
        k_steps
        rw [ints_len' hnv, List.take_of_length_le (Nat.le_refl _)] at hys
        rename_i h9 o9 F9 N9 d9
        exact hQ _ _ ⟨rfl, h9, _, D, ys, ys.length, o9, rfl, F9, N9, hys, d9, o1'⟩
    clear F N d3
    rintro f s' ⟨rfl, h', tk, wd, wvs, k2, o3, rfl, F, N, hwv, d3, off1⟩
    dsimp only
    refine h_cons (wpH_any ?_)
    with_reducible refine cutQ (fun (f : Flow) (s' : Shared) => f = .next ∧ Ex3 fun h' tk tt => An3 (s' = { s with heap := h', toks := tk }) (Fr g L' h' (lwM (some (.ref sc)) (some (.ref nu)) (some (.str (ofL ((numsOf script).map writL).flatten) tt)) none none none none none)) (News g L' h' [(wd, listOf (wvs : List Value).toArray k2), (nu, listOf (nvs : List Value).toArray k), (L' + 1 + 1 + 1, o1), (L' + 1 + 1, o2), (L' + 1, o3), (100, tabObj #[])])) ?q3 ?q3'
    case q3 =>
      intro Q hQ
      have hm : HM := trivial
      k_steps
      refine unhold (CompSrc.ledger rfl F N (.tail _ (.head _)) ?z fun g' => rest_of (n := nvs.length) (fun i ys nw => nw = [(wd, listOf (wvs : List Value).toArray k2), (nu, listOf (nvs : List Value).toArray k), (L' + 1 + 1 + 1, o1), (L' + 1 + 1, o2), (L' + 1, o3), (100, tabObj #[])] ∧ StrsAre ys (((numsOf script).take i).map fun x => ofL (writL x))) ?step ?fin _ 0 [] _ (by simp) ⟨rfl, .nil⟩)
      case z => exact nz11 (ints_len' hnv) hnl.2
      case step =>
        rintro i ys nw hi ⟨rfl, hys⟩ v I oI C oC D m₂ h tk E' hv hC hx F N off ne
        obtain ⟨x, t, hx1, rfl⟩ := ints_at hnv (by simpa using hv)
        have hxl : x < 1536 := nums_lt script x (List.mem_of_getElem? hx1)
        with_reducible refine cutQ (fun y s' => Ex3 fun h' tk' t' => An4 (y = Value.str (ofL (writL x)) t') (s' = { s with heap := h', toks := tk' }) (Fr g L' h' (lwM (some (.ref sc)) (some (.ref nu)) none none none none none none)) (News g L' h' ((I, oI) :: (C, oC) :: (D, lst ys) :: [(wd, listOf (wvs : List Value).toArray k2), (nu, listOf (nvs : List Value).toArray k), (L' + 1 + 1 + 1, o1), (L' + 1 + 1, o2), (L' + 1, o3), (100, tabObj #[])]))) ?qa ?qb
        case qa =>
          intro Q hQ
          k_steps
          exact hQ _ _ ⟨_, _, _, rfl, rfl, by assumption, by assumption⟩
        case qb =>
          rintro y s' ⟨h', tk', t', rfl, rfl, F', N'⟩
          exact CompEnd.intro F' N' _ (fun _ h => h) off (.inr ⟨_, .tail _ (.head _), rfl, _, rfl⟩) ⟨rfl, strs_snoc hys hx1⟩
      case fin =>
        rintro ys nw ⟨rfl, hys⟩ D h tk F N o1'
        rw [ints_len' hnv, List.take_of_length_le (Nat.le_refl _)] at hys
        replace hys : StrsAre ys (((numsOf script).map writL).map ofL) := by rw [List.map_map]; exact hys
        have hz : ((numsOf script).map writL).flatten.length ≤ 1000000 := by have := flat_writ (numsOf script); omega
        k_steps
        rename_i h9 F9 N9
        exact hQ _ _ ⟨rfl, h9, _, _, rfl, frEq F9 (ext_lw rfl rfl rfl rfl rfl rfl rfl rfl fun y k1 k2 k3 k4 k5 k6 k7 k8 => by (repeat (first | refine (if_neg k1).trans ?_ | refine (if_neg k2).trans ?_ | refine (if_neg k3).trans ?_ | refine (if_neg k4).trans ?_ | refine (if_neg k5).trans ?_ | refine (if_neg k6).trans ?_ | refine (if_neg k7).trans ?_ | refine (if_neg k8).trans ?_)); exact (lw_none k1 k2 k3 k4 k5 k6 k7 k8).symm), fun q hq => N9 q (.tail _ hq)⟩
    clear F N
    rintro f s' ⟨rfl, h', tk, tt, rfl, F, N⟩
    dsimp only
    refine h_cons (wpH_any ?_)
    with_reducible refine cutQ (fun (f : Flow) (s' : Shared) => f = .next ∧ Ex9 fun h' tk P lt vs n np ps o2 => An7 (s' = { s with heap := h', toks := tk }) (Fr g L' h' (lwM (some (.ref sc)) (some (.ref nu)) (some (.str (ofL ((numsOf script).map writL).flatten) tt)) none none none none none)) (News g L' h' (lexL w P 1 lt vs n [] np ++ [(wd, listOf (wvs : List Value).toArray k2), (nu, listOf (nvs : List Value).toArray k), (L' + 1 + 1 + 1, o1), (L' + 1 + 1, o2), (L' + 1, o3), (100, tabObj ps)])) (LXok w P) (StrsAre vs (sgn ((numsOf script).map writL).flatten)) (o2.data = .cell (some (.ref P.lx))) ((∀ a ∈ [wd, nu, L' + 1 + 1 + 1, L' + 1 + 1, L' + 1, 100], a ∉ lexF P))) ?q4 ?q4'
    case q4 =>
      intro Q hQ
      have hm : HM := trivial
      k_steps
      have hz : ((numsOf script).map writL).flatten.length ≤ 1000 := by have := flat_writ (numsOf script); omega
      have hsm : ∀ c ∈ ((numsOf script).map writL).flatten, c < 128 := fun c hc => by
        obtain ⟨l, hl, hc⟩ := List.mem_flatten.mp hc
        obtain ⟨x, _, rfl⟩ := List.mem_map.mp hl
        exact writ_small x c hc
      refine unhold (lexerE G B F N rfl rfl (by simp) hz hsm (by omega) (by omega) fun h' tk P lt vs n np ps F' K hne hN hv => ?_)
      have hsep : ∀ a ∈ [wd, nu, L' + 1 + 1 + 1, L' + 1 + 1, L' + 1, 100], a ∉ lexF P := fun a ha hm => by
        have hm' : a ∈ (lexL w P 1 lt vs n [] np).map (·.1) := hm
        obtain ⟨r, hr, e⟩ := List.mem_map.mp hm'
        have ha' : a ∈ [(wd, listOf (wvs : List Value).toArray k2), (nu, listOf (nvs : List Value).toArray k), (L' + 1 + 1 + 1, o1), (L' + 1 + 1, o2), (L' + 1, o3), (100, tabObj #[])].map (·.1) := ha
        obtain ⟨q, hq, e'⟩ := List.mem_map.mp ha'
        exact hne q hq r hr (e'.trans e.symm)
      have N' := hN (lexL w P 1 lt vs n [] np ++ [(wd, listOf (wvs : List Value).toArray k2), (nu, listOf (nvs : List Value).toArray k), (L' + 1 + 1 + 1, o1), (L' + 1 + 1, o2), (L' + 1, o3), (100, tabObj ps)]) fun q hq => by
        rcases List.mem_append.mp hq with hq | hq
        · exact .inr (.inr hq)
        · simp only [List.mem_cons, List.not_mem_nil, or_false] at hq
          obtain ⟨y1, y2, y3, y4, y5, _⟩ := off1
          have l100 : @LT.lt Nat _ 100 L' := l1
          rcases hq with rfl | rfl | rfl | rfl | rfl | rfl
          · exact .inl ⟨by simp, fun e => y5 (Eq.symm e)⟩
          · exact .inl ⟨by simp, fun e => by have e' : @Eq Nat nu 100 := e; omega⟩
          · exact .inl ⟨by simp, fun e => by have e' : @Eq Nat (L' + 1 + 1 + 1) 100 := e; omega⟩
          · exact .inl ⟨by simp, fun e => by have e' : @Eq Nat (L' + 1 + 1) 100 := e; omega⟩
          · exact .inl ⟨by simp, fun e => by have e' : @Eq Nat (L' + 1) 100 := e; omega⟩
          · exact .inr (.inl rfl)
      clear hN hne F N
      have g0 : L' + 1 + 1 ∉ lexF P := hsep _ (by simp)
      simp only [lexF, lexA, List.cons_append, List.nil_append, List.mem_cons, List.not_mem_nil, or_false, not_or] at g0
      obtain ⟨g1, g2, g3, g4, g5, g6, g7, g8, g9⟩ := g0
      obtain ⟨y1, y2, y3, y4, y5, _⟩ := id off1
      clear y1 y2 y4 y5
      simp only [List.cons_append, List.nil_append] at N'
      replace g1 := neN g1
      replace g2 := neN g2
      replace g3 := neN g3
      replace g4 := neN g4
      replace g5 := neN g5
      replace g6 := neN g6
      replace g7 := neN g7
      replace g8 := neN g8
      replace g9 := neN g9
      k_steps
      rename_i h9 o9 F9 N9 d9
      exact hQ _ _ ⟨rfl, h9, _, P, lt, vs, n, np, ps, o9, rfl, F9, N9, K, hv, d9, hsep⟩
    have hq3 : (@Ne Nat wd (L' + 1 + 1 + 1)) ∧ (@LT.lt Nat _ 100 L') := by
      obtain ⟨y1, y2, y3, y4, y5, _⟩ := off1
      exact ⟨fun e => y2 e.symm, l1⟩
    clear F N d2 l1 off1
    rintro f s' ⟨rfl, h', tk, P, lt, vs, n, np, ps, o2, rfl, F, N, K, hv, d2, hsep⟩
    dsimp only
    have hTl : ((numsOf script).map writL).flatten.length ≤ 160 := by have := flat_writ (numsOf script); omega
    have hRd : Rd ((numsOf script).map writL).flatten ((numsOf script).map wordL ++ [[]]) := rd_written (numsOf script) [] (fun _ h => absurd h List.not_mem_nil)
    have hwl : wvs.length = (numsOf script).length := by have := hwv.len; simpa using this
    generalize hT : ((numsOf script).map writL).flatten = T at F hv hTl hRd
    obtain ⟨RES, hRES⟩ : ∃ RES, RES = [(wd, listOf (wvs : List Value).toArray k2), (nu, listOf (nvs : List Value).toArray k), (L' + 1 + 1 + 1, o1), (L' + 1 + 1, o2), (L' + 1, o3), (100, tabObj ps)] := ⟨_, rfl⟩
    rw [← hRES] at N
    have hRs : ∀ q ∈ RES, q.1 ∉ lexF P := fun q hq => hsep q.1 (by rw [hRES] at hq; simpa using List.mem_map_of_mem (f := (·.1)) hq)
    refine h_cons (wpH_any ?_)
    with_reducible refine cutQ (fun (f : Flow) (s' : Shared) => f = .next ∧ Ex7 fun h' tk td tvs k3 lt n => An5 (s' = { s with heap := h', toks := tk }) (Fr g L' h' (lwM (some (.ref sc)) (some (.ref nu)) (some (.str (ofL T) tt)) (some (.ref td)) none none none none)) (News g L' h' ((td, listOf (tvs : List Value).toArray k3) :: (lexL w P (1 + (nls T : Int)) lt [] n [] np ++ RES))) (StrsAre tvs (((numsOf script).map wordL ++ [[]]).map ofL)) (Off1 td (lexL w P (1 + (nls T : Int)) lt [] n [] np ++ RES))) ?q5 ?q5'
    case q5 =>
      intro Q hQ
      have hm : HM := trivial
      have hmw : (wd, listOf (wvs : List Value).toArray k2) ∈ RES := by rw [hRES]; simp
      rw [hRES] at N
      simp only [List.cons_append, List.nil_append] at N
      k_steps
      rename_i t0 tk0 h0 tk1 ta tb tc hR F0 N0 hk0 hm0
      have hsl : (numsOf script).length + 1 ≤ sizeLine := nz10 hnl.2
      refine unhold (CompSrc.range (n := (numsOf script).length + 1) (news := lexL w P 1 lt vs n [] np ++ RES) rfl F0 (by rw [hRES]; exact N0) hR (range_small (n := (numsOf script).length + 1) (by omega)) (range_size (n := (numsOf script).length + 1) (by omega)) hsl
        fun g' => rest_of (n := (numsOf script).length + 1) (fun i ys nw => Ex6 fun R ts la lta va na => An8 (nw = lexL w P la lta va na [] np ++ RES) (Rd R ts) (ts = ((numsOf script).map wordL ++ [[]]).drop i) (StrsAre va (sgn R)) (0 ≤ la) (la + (nls R : Int) = 1 + (nls T : Int)) (R.length ≤ 160) (StrsAre ys ((((numsOf script).map wordL ++ [[]]).take i).map ofL))) ?step ?fin _ 0 [] _ (by omega)
          ⟨T, _, 1, lt, vs, n, rfl, hRd, rfl, hv, by decide, rfl, hTl, .nil⟩)
      case step =>
        clear hR F0 N0 hk0 hm0
        rintro i ys nw hi ⟨R, ts, la, lta, va, na, rfl, hr, hts, hva, hla, hca, hRl, hys⟩ v I oI C oC D m₂ h tk E' hv' hC hx F N off ne
        have hil : i < ((numsOf script).map wordL ++ [[]]).length := by simp; omega
        rw [List.drop_eq_getElem_cons hil] at hts
        have hti : ((numsOf script).map wordL ++ [[]])[i]? = some (((numsOf script).map wordL ++ [[]])[i]) := List.getElem?_eq_getElem hil
        generalize ((numsOf script).map wordL ++ [[]])[i] = tok at hts hti
        subst hts
        cases hr with
        | @cons _ _ R' _ hTk hr' =>
        have hTn : nls T ≤ T.length := List.count_le_length
        obtain ⟨fI, fC, fD⟩ := off3_F off
        rw [hRES] at N
        simp only [List.cons_append, List.nil_append] at N
        with_reducible refine cutQ (fun y s' => Ex7 fun h' tk' t' lb ltb vb nb => An7 (y = Value.str (ofL tok) t') (s' = { s with heap := h', toks := tk' }) (Fr g L' h' (lwM (some (.ref sc)) (some (.ref nu)) (some (.str (ofL T) tt)) none none none none none)) (News g L' h' ((I, oI) :: (C, oC) :: (D, lst ys) :: (lexL w P lb ltb vb nb [] np ++ RES))) (StrsAre vb (sgn R')) (0 ≤ lb) (lb + (nls R' : Int) = 1 + (nls T : Int))) ?qa ?qb
        case qa =>
          intro Q hQ
          k_steps
          have N9 : News g L' h ((I, oI) :: (C, oC) :: (D, lst ys) :: (lexL w P la lta va na [] np ++ RES)) := by rw [hRES]; exact N
          refine unhold (gtE K G B F N9 rfl rfl (fun q hq => .tail _ (.tail _ (.tail _ (List.mem_append_left _ hq)))) hTk hva (by omega) ⟨hla, smallA hca hTn hTl⟩ (by omega) (by omega) fun h' tk' lb ltb vb nb tt' F' hN' h0' hc' hvb => ?_)
          refine hQ _ _ ⟨h', tk', tt', lb, ltb, vb, nb, rfl, rfl, F', hN' _ fun q hq => ?_, hvb, h0', hc'.trans hca⟩
          simp only [List.mem_cons, List.mem_append] at hq
          rcases hq with rfl | rfl | rfl | hq | hq
          · exact .inl ⟨.head _, fI⟩
          · exact .inl ⟨.tail _ (.head _), fC⟩
          · exact .inl ⟨.tail _ (.tail _ (.head _)), fD⟩
          · exact .inr (by simpa using hq)
          · exact .inl ⟨.tail _ (.tail _ (.tail _ (List.mem_append_right _ hq))), hRs q hq⟩
        case qb =>
          rintro y s' ⟨h', tk', t', lb, ltb, vb, nb, rfl, rfl, F', N', hvb, h0', hc'⟩
          have hlen2 := tok_len hTk
          exact CompEnd.intro F' N' _ (fun _ h => h) (off3_lex off) trivial ⟨R', _, lb, ltb, vb, nb, rfl, hr', rfl, hvb, h0', hc', by omega, strs_snocL hys hti⟩
      case fin =>
        rintro ys nw ⟨R, ts, la, lta, va, na, rfl, hr, hts, hva, hla, hca, hRl, hys⟩ D h tk F N off
        rw [List.drop_eq_nil_of_le (by simp)] at hts
        subst hts
        cases hr
        cases hva
        rw [List.take_of_length_le (by simp)] at hys
        have e : la = 1 + (nls T : Int) := by simpa [nls] using hca
        subst e
        exact hQ _ _ ⟨rfl, h, tk, D, ys, ys.length, lta, na, rfl, frEq F (ext_lw rfl rfl rfl rfl rfl rfl rfl rfl fun y k1 k2 k3 k4 k5 k6 k7 k8 => by (repeat (first | refine (if_neg k1).trans ?_ | refine (if_neg k2).trans ?_ | refine (if_neg k3).trans ?_ | refine (if_neg k4).trans ?_ | refine (if_neg k5).trans ?_ | refine (if_neg k6).trans ?_ | refine (if_neg k7).trans ?_ | refine (if_neg k8).trans ?_)); exact (lw_none k1 k2 k3 k4 k5 k6 k7 k8).symm), N, hys, off⟩
    clear F N hv hRd
    rintro f s' ⟨rfl, h', tk, td, tvs, k3, lt, n, rfl, F, N, htv, offt⟩
    dsimp only
    refine h_cons (wpH_any ?_)
    with_reducible refine cutQ (fun (f : Flow) (s' : Shared) => f = .next ∧ ∃ h' tk, s' = { s with heap := h', toks := tk } ∧ Fr g L' h' (lwM (some (.ref sc)) (some (.ref nu)) (some (.str (ofL T) tt)) (some (.ref td)) none none none none) ∧
      News g L' h' ((td, listOf (tvs : List Value).toArray k3) :: (lexL w P (1 + (nls T : Int)) lt [] n [] np ++ RES))) ?q6 ?q6'
    case q6 =>
      intro Q hQ
      have hm : HM := trivial
      have htl := htv.len
      simp only [List.length_map, List.length_append, List.length_cons, List.length_nil] at htl
      rw [hRES] at N
      simp only [List.cons_append, List.nil_append] at N
      k_steps
      have e0 : PySem.Str.ofString "" = ofL [] := by decide +kernel
      have hw2 : StrsAre (wvs ++ [Value.str (PySem.Str.ofString "") tk]) (((numsOf script).map wordL ++ [[]]).map ofL) := by
        rw [List.map_append, List.map_map, e0]; exact hwv.append (.cons .nil)
      have hok : ∀ l ∈ (numsOf script).map wordL ++ [[]], ∀ c ∈ l, c < 128 := by
        intro l hl c hc
        rcases List.mem_append.mp hl with hl | hl
        · obtain ⟨x, _, rfl⟩ := List.mem_map.mp hl; exact word_small x c hc
        · rw [List.mem_singleton.mp hl] at hc; cases hc
      refine' unhold (neK ?N ?a ?b htv hw2 hok ?u ?_)
      case N => assumption
      case a => k_mem
      case b => k_mem
      case u => simp only [units_deeper]; (try dsimp only); omega
      k_steps
      · rename_i hne
        exact absurd (congrArg (1 + ·) (count_nl T).symm) hne
      · rename_i h9 F9 N9 l9 _ _
        refine hQ _ _ ⟨rfl, h9, _, rfl, F9, fun q hq => N9 q (.tail _ (.tail _ ?_))⟩
        rw [hRES] at hq; exact hq
    clear F N
    rintro f s' ⟨rfl, h', tk, rfl, F, N⟩
    dsimp only
    refine h_cons (wpH_any ?_)
    with_reducible refine cutQ (fun (f : Flow) (s' : Shared) => f = .next ∧ Ex4 fun h' tk wv np => An3 (s' = { s with heap := h', toks := tk }) (Fr g L' h' (lwM (some (.ref sc)) (some (.ref nu)) (some (.str (ofL T) tt)) (some (.ref td)) wv none none none)) (News g L' h' (lexL w P (1 + (nls T : Int)) lt [] n tvs np ++ RES))) ?q7 ?q7'
    case q7 =>
      intro Q hQ
      have hm : HM := trivial
      rw [hRES] at N
      simp only [List.cons_append, List.nil_append] at N
      refine for_open ?_ (by intro _; rfl)
      k_steps
      have N9 : News g L' h' ([(td, listOf tvs.toArray k3)] ++ (lexL w P (1 + (nls T : Int)) lt [] n [] np ++ RES)) := by rw [hRES]; exact N
      refine forAt_list (vs := tvs) (n := k3) (fun dn m led => ∃ wv np, m = lwM (some (.ref sc)) (some (.ref nu)) (some (.str (ofL T) tt)) (some (.ref td)) wv none none none ∧ led = [(td, listOf tvs.toArray k3)] ++ (lexL w P (1 + (nls T : Int)) lt [] n dn np ++ RES)) F N9 ⟨none, np, rfl, rfl⟩ ?hJl ?turn ?done rfl rfl rfl PySem.PassesOwn.never
      case hJl => rintro _ _ _ ⟨_, _, _, rfl⟩; exact .head _
      case turn =>
        clear N9 F N
        have htd : td ∉ lexF P := off1_F (pre := []) offt
        rintro I oI dn v rest m₁ led h tk hvs ⟨wv, np', rfl, rfl⟩ hltI hneI F N
        have lexmem : ∀ xs a, a ∈ lexF P → ∃ q ∈ (lexL w P (1 + (nls T : Int)) lt [] n xs np' ++ RES), q.1 = a := fun xs a ha => by
          have ha' : a ∈ (lexL w P (1 + (nls T : Int)) lt [] n xs np').map (·.1) := ha
          obtain ⟨q, hq, e⟩ := List.mem_map.mp ha'
          exact ⟨q, List.mem_append_left _ hq, e⟩
        have hI1 : I ∉ lexF P := fun ha => by
          obtain ⟨q, hq, e⟩ := lexmem dn I ha
          exact hneI q (.tail _ hq) e
        rw [hRES] at N
        simp only [List.cons_append, List.nil_append] at N
        replace F := frEq F (show _ = lwM (some (.ref sc)) (some (.ref nu)) (some (.str (ofL T) tt)) (some (.ref td)) (some v) none none none from ext_lw rfl rfl rfl rfl rfl rfl rfl rfl fun y k1 k2 k3 k4 k5 k6 k7 k8 => by
          (repeat (first | refine (if_neg k1).trans ?_ | refine (if_neg k2).trans ?_ | refine (if_neg k3).trans ?_ | refine (if_neg k4).trans ?_ | refine (if_neg k5).trans ?_ | refine (if_neg k6).trans ?_ | refine (if_neg k7).trans ?_ | refine (if_neg k8).trans ?_)); exact (lw_none k1 k2 k3 k4 k5 k6 k7 k8).symm)
        k_steps
        have N9 : News g L' h ([(I, oI), (td, listOf tvs.toArray k3)] ++ (lexL w P (1 + (nls T : Int)) lt [] n dn np' ++ RES)) := by rw [hRES]; exact N
        refine unhold (pushE G B F N9 rfl rfl (List.mem_append_right _ (.head _)) (List.mem_append_right _ (.tail _ (.head _))) (upd_lex (ys := dn ++ [v]) (np' := np' + 1) K ?hp hRs) (lex_ne K).1 (lex_ne K).2.1 (lex_ne K).2.2 ?hz (by omega) (by omega) fun h' tk' F' N' => ?_)
        case hp =>
          intro q hq
          rcases List.mem_cons.mp hq with rfl | hq
          · exact hI1
          · rw [List.mem_singleton.mp hq]; exact htd
        case hz =>
          have e1 := congrArg List.length hvs
          have e2 := htv.len
          simp only [List.length_append, List.length_cons, List.length_map, List.length_nil] at e1 e2
          omega
        k_steps
        exact TurnEnd.of (.inl rfl) F' N' (fun q hq e => by
          have h1 : q.1 ∈ ([(td, listOf tvs.toArray k3)] ++ (lexL w P (1 + (nls T : Int)) lt [] n dn np' ++ RES)).map (·.1) := List.mem_map_of_mem (f := (·.1)) hq
          obtain ⟨r, hr, e2⟩ := List.mem_map.mp h1
          exact hneI r hr (e2.trans e)) ⟨_, _, rfl, rfl⟩
      case done =>
        rintro m₁ led h tk ⟨wv, np', rfl, rfl⟩ F N
        exact hQ _ _ ⟨rfl, h, tk, wv, np', rfl, F, fun q hq => N q (.tail _ hq)⟩
    clear F N offt
    rintro f s' ⟨rfl, h', tk, wv, np, rfl, F, N⟩
    dsimp only
    obtain ⟨x0, xr, hx0⟩ : ∃ x0 xr, numsOf script = x0 :: xr := by
      cases q : numsOf script with
      | nil => rw [q] at hnl; simp at hnl
      | cons a b => exact ⟨a, b, rfl⟩
    refine h_cons ?_
    with_reducible refine cutH (fun (f : Flow) (s' : Shared) => f = .next ∧ Ex6 fun h' tk rvs n2 W late => An5 (s' = { s with heap := h', toks := tk }) (Fr g L' h' (lwM (some (.ref sc)) (some (.ref nu)) (some (.str (ofL T) tt)) (some (.ref td)) wv none none none)) (News g L' h' (lexL w P (1 + (nls T : Int)) lt [] n rvs n2 ++ RES)) (StrsAre rvs (W.map wordS ++ [ofL []])) (Till ((numsOf script).map fun x => [x]) late W)) ?q8 ?q8'
    case q8 =>
      intro Q hQ
      have hm : HM := trivial
      rw [hRES] at N
      simp only [List.cons_append, List.nil_append] at N
      refine h_expr (h_call ?_) (by rfl) (by rfl)
      k_steps
      refine h_withK (K := hd.heap_39 w.params) (by k_dflt k_is) ?_
      k_steps
      rename_i h9 tk9 t9 F9 N9
      obtain ⟨late, hl64, hle⟩ : ∃ late : Nat, late < 64 ∧ (script.sum + 5).fmod 64 = (late : Int) := by
        have h1 := Int.fmod_lt_of_pos (script.sum + 5) (b := 64) (by decide)
        have h2 := Int.fmod_nonneg_of_pos (script.sum + 5) (b := 64) (by decide)
        exact ⟨((script.sum + 5).fmod 64).toNat, by omega, by omega⟩
      rw [hle]
      have htv2 : StrsAre tvs (([x0] :: xr.map fun x => [x]).map wordS ++ [ofL []]) := by
        have e : ([x0] :: xr.map fun x => [x]).map wordS ++ [ofL []] = ((numsOf script).map wordL ++ [[]]).map ofL := by
          rw [hx0]; simp [wordS, textL, Function.comp_def]
        rw [e]; exact htv
      have hxl : xr.length ≤ 7 := by have := hnl.2; rw [hx0] at this; simp at this; omega
      have hfl : ∀ l : List Nat, (l.map fun x => [x]).flatten.length = l.length := fun l => by
        induction l with
        | nil => rfl
        | cons a l ih => simp only [List.map_cons, List.flatten_cons, List.length_append, List.length_cons, List.length_nil, ih]; omega
      have N8 : News g L' h9 ([] ++ (lexL w P (1 + (nls T : Int)) lt [] n tvs np ++ RES)) := by rw [hRES]; exact N9
      refine tillE (hand := [x0]) (rest := xr.map fun x => [x]) G B F9 N8 rfl rfl (.head _) (.tail _ (.head _)) (.tail _ (.tail _ (.tail _ (.tail _ (.tail _ (.tail _ (.tail _ (.tail _ (.head _))))))))) (lex_ne K).1 (lex_ne K).2.1 (lex_ne K).2.2 htv2 ?hne ?hlen ?hrl hl64 (by omega) (by omega) fun h' tk' rvs n2 W F' hN hv hT => ?_
      case hne =>
        intro x hx
        rcases List.mem_cons.mp hx with rfl | hx
        · simp
        · obtain ⟨a, _, rfl⟩ := List.mem_map.mp hx; simp
      case hlen => rw [hfl]; simp; omega
      case hrl => simp; omega
      refine PySem.wpAny_dropValue ?_
      refine hQ _ _ ⟨rfl, h', _, rvs, n2, W, late, rfl, F', hN _ fun q hq => ?_, hv, by rw [hx0]; exact hT⟩
      exact lex_part K hRs hq
    clear F N htv
    rintro f s' ⟨rfl, h', tk, rvs, n2, W, late, rfl, F, N, hrv, hTW⟩
    dsimp only
    obtain ⟨hWf, hWc, hWp⟩ := chen hTW
    have hWl : W.length ≤ (numsOf script).length := words_le hWc
    have hW8 : W.length ≤ 8 := Nat.le_trans hWl hnl.2
    have hWk : W.length ≤ 1000 := Nat.le_trans hW8 (by decide)
    obtain ⟨rowL, hrow⟩ : ∃ rowL, rowL = W.map textL ++ List.replicate ((numsOf script).length + 1 - W.length) [] := ⟨_, rfl⟩
    have hrl : rowL.length = (numsOf script).length + 1 := by rw [hrow]; simp; exact nz1 hWl
    refine h_cons (wpH_any ?_)
    with_reducible refine cutQ (fun (f : Flow) (s' : Shared) => f = .next ∧ Ex5 fun h' tk rw yvs k4 => An5 (s' = { s with heap := h', toks := tk }) (Fr g L' h' (lwM (some (.ref sc)) (some (.ref nu)) (some (.str (ofL T) tt)) (some (.ref td)) wv (some (.ref rw)) none none)) (News g L' h' ((rw, listOf (yvs : List Value).toArray k4) :: RES)) (StrsAre yvs (rowL.map ofL)) (Off1 rw RES)) ?q9 ?q9'
    case q9 =>
      intro Q hQ
      have hm : HM := trivial
      rw [hRES] at N
      simp only [List.cons_append, List.nil_append] at N
      k_steps
      rename_i t0 tk0 h0 tk1 ta tb tc hR F0 N0 hk0 hm0
      have hsl : (numsOf script).length + 1 ≤ sizeLine := nz10 hnl.2
      have hrow2 : rowL = (W.map textL ++ [[]]) ++ List.replicate ((numsOf script).length - W.length) [] := by
        rw [hrow, show (numsOf script).length + 1 - W.length = ((numsOf script).length - W.length) + 1 from nz2 hWl, List.replicate_succ]; simp
      have hrv2 : W.map wordS ++ [ofL []] = (W.map textL ++ [[]]).map ofL := by simp [wordS, Function.comp_def]
      have hrvl : rvs.length = W.length + 1 := by have := hrv.len; simpa using this
      refine unhold (CompSrc.range (n := (numsOf script).length + 1) (news := lexL w P (1 + (nls T : Int)) lt [] n rvs n2 ++ RES) rfl F0 (by rw [hRES]; exact N0) hR (range_small (n := (numsOf script).length + 1) (by omega)) (range_size (n := (numsOf script).length + 1) (by omega)) hsl
        fun g' => rest_of (n := (numsOf script).length + 1) (fun i ys nw => Ex3 fun lta na npa => An2 (nw = lexL w P (1 + (nls T : Int)) lta [] na (rvs.drop i) npa ++ RES) (StrsAre ys ((rowL.take i).map ofL))) ?step ?fin _ 0 [] _ (by omega)
          ⟨lt, n, n2, rfl, .nil⟩)
      case step =>
        clear hR F0 N0 hk0 hm0
        rintro i ys nw hi ⟨lta, na, npa, rfl, hys⟩ v I oI C oC D m₂ h tk E' hv' hC hx F N off ne
        have hil : i < rowL.length := by omega
        have hti : rowL[i]? = some (rowL[i]) := List.getElem?_eq_getElem hil
        generalize rowL[i] = tok at hti
        have hTn : nls T ≤ T.length := List.count_le_length
        obtain ⟨fI, fC, fD⟩ := off3_F off
        have hpre : ∀ q ∈ [(I, oI), (C, oC), (D, lst ys)], q.1 ∉ lexF P := fun q hq => by
          simp only [List.mem_cons, List.not_mem_nil, or_false] at hq
          rcases hq with rfl | rfl | rfl <;> assumption
        rw [hRES] at N
        simp only [List.cons_append, List.nil_append] at N
        with_reducible refine cutQ (fun y s' => Ex6 fun h' tk' t' ltb nb npb => An4 (y = Value.str (ofL tok) t') (s' = { s with heap := h', toks := tk' }) (Fr g L' h' (lwM (some (.ref sc)) (some (.ref nu)) (some (.str (ofL T) tt)) (some (.ref td)) wv none none none)) (News g L' h' ([(I, oI), (C, oC), (D, lst ys)] ++ (lexL w P (1 + (nls T : Int)) ltb [] nb (rvs.drop (i + 1)) npb ++ RES)))) ?qa ?qb
        case qa =>
          intro Q hQ
          k_steps
          have N9 : News g L' h ([(I, oI), (C, oC), (D, lst ys)] ++ (lexL w P (1 + (nls T : Int)) lta [] na (rvs.drop i) npa ++ RES)) := by rw [hRES]; exact N
          clear N
          by_cases hc : i < W.length + 1
          · rw [hrv2] at hrv
            have hi2 : i < ((W.map textL ++ [[]]).map ofL).length := by simp; omega
            obtain ⟨tv, hv1⟩ := StrsAre.at hrv i hi2
            have e2 : ((W.map textL ++ [[]]).map ofL)[i] = ofL tok := by
              rw [hrow2, List.getElem?_append_left (by simp; omega)] at hti
              obtain ⟨hj, e⟩ := List.getElem?_eq_some_iff.mp hti
              rw [List.getElem_map, e]
            rw [e2] at hv1
            have hi3 : i < rvs.length := by omega
            have e3 : rvs.drop i = Value.str (ofL tok) tv :: rvs.drop (i + 1) := by
              rw [List.drop_eq_getElem_cons hi3]
              congr 1
              exact (List.getElem?_eq_some_iff.mp hv1).2
            rw [e3] at N9
            refine unhold (getE G B F N9 rfl rfl (List.mem_append_right _ (.head _)) (List.mem_append_right _ (.tail _ (.head _))) (upd_lex K hpre hRs) (lex_ne K).1 (lex_ne K).2.1 (lex_ne K).2.2 ?hz (by omega) (by omega) fun h' tk' F' N' => ?_)
            case hz => rw [List.length_drop]; exact nz6 hrvl hW8
            exact hQ _ _ ⟨h', tk', tv, lta, na, npa + 1, rfl, rfl, F', N'⟩
          · have e1 : tok = [] := by
              rw [hrow2, List.getElem?_append_right (by simp; omega)] at hti
              exact (List.mem_replicate.mp (List.mem_of_getElem? hti)).2
            have e2 : rvs.drop i = [] := List.drop_eq_nil_of_le (by omega)
            have e3 : rvs.drop (i + 1) = [] := List.drop_eq_nil_of_le (by omega)
            subst e1
            rw [e2] at N9
            refine unhold (gtE K G B F N9 rfl rfl (fun q hq => List.mem_append_right _ (List.mem_append_left _ hq)) (TokR.fin) (vs := []) .nil (by simp) ⟨by omega, by omega⟩ (by omega) (by omega) fun h' tk' lb ltb vb nb tt' F' hN' h0' hc' hvb => ?_)
            cases hvb
            have e : lb = 1 + (nls T : Int) := by simpa [nls] using hc'
            subst e
            refine hQ _ _ ⟨h', tk', tt', ltb, nb, npa, rfl, rfl, F', hN' _ fun q hq => ?_⟩
            rw [e3] at hq
            rcases List.mem_append.mp hq with hq | hq
            · exact .inl ⟨List.mem_append_left _ hq, hpre q hq⟩
            · rcases List.mem_append.mp hq with hq | hq
              · exact .inr hq
              · exact .inl ⟨List.mem_append_right _ (List.mem_append_right _ hq), hRs q hq⟩
        case qb =>
          rintro y s' ⟨h', tk', t', ltb, nb, npb, rfl, rfl, F', N'⟩
          exact CompEnd.intro F' N' _ (fun _ h => h) (off3_lex off) trivial ⟨ltb, nb, npb, rfl, strs_snocL hys hti⟩
      case fin =>
        rintro ys nw ⟨lta, na, npa, rfl, hys⟩ D h tk F N off
        rw [List.take_of_length_le (by omega)] at hys
        exact hQ _ _ ⟨rfl, h, tk, D, ys, ys.length, rfl, frEq F (ext_lw rfl rfl rfl rfl rfl rfl rfl rfl fun y k1 k2 k3 k4 k5 k6 k7 k8 => by (repeat (first | refine (if_neg k1).trans ?_ | refine (if_neg k2).trans ?_ | refine (if_neg k3).trans ?_ | refine (if_neg k4).trans ?_ | refine (if_neg k5).trans ?_ | refine (if_neg k6).trans ?_ | refine (if_neg k7).trans ?_ | refine (if_neg k8).trans ?_)); exact (lw_none k1 k2 k3 k4 k5 k6 k7 k8).symm), (fun q hq => by
          rcases List.mem_cons.mp hq with rfl | hq
          · exact N _ (.head _)
          · exact N _ (.tail _ (List.mem_append_right _ hq))), hys, off1_drop off⟩
    clear F N hrv
    rintro f s' ⟨rfl, h', tk, rw, yvs, k4, rfl, F, N, hyv, offr⟩
    dsimp only
    rw [hRES] at N offr
    clear hRs
    refine h_cons (wpH_any ?_)
    with_reducible refine cutQ (fun (f : Flow) (s' : Shared) => f = .next ∧ Ex6 fun h' tk cd cvs k5 o1 => An6 (s' = { s with heap := h', toks := tk }) (Fr g L' h' (lwM (some (.ref sc)) (some (.ref nu)) (some (.str (ofL T) tt)) (some (.ref td)) wv (some (.ref rw)) none none)) (News g L' h' [(cd, listOf (cvs : List Value).toArray k5), (rw, listOf (yvs : List Value).toArray k4), (wd, listOf (wvs : List Value).toArray k2), (nu, listOf (nvs : List Value).toArray k), (L' + 1 + 1 + 1, o1), (L' + 1 + 1, o2), (L' + 1, o3), (100, tabObj ps)]) (IAre cvs ((codesL (numsOf script)).map Int.ofNat)) (o1.data = .cell (some (.ref cd))) (Off1 cd [(rw, listOf (yvs : List Value).toArray k4), (wd, listOf (wvs : List Value).toArray k2), (nu, listOf (nvs : List Value).toArray k), (L' + 1 + 1 + 1, o1), (L' + 1 + 1, o2), (L' + 1, o3), (100, tabObj ps)])) ?q10 ?q10'
    case q10 =>
      intro Q hQ
      have hm : HM := trivial
      k_steps
      refine unhold (CompSrc.ledger rfl F N (.tail _ (.tail _ (.head _))) ?z fun g' => rest_of (n := nvs.length) (fun i ys nw => nw = [(rw, listOf (yvs : List Value).toArray k4), (wd, listOf (wvs : List Value).toArray k2), (nu, listOf (nvs : List Value).toArray k), (L' + 1 + 1 + 1, o1), (L' + 1 + 1, o2), (L' + 1, o3), (100, tabObj ps)] ∧ IAre ys (((codesL (numsOf script)).take i).map Int.ofNat)) ?step ?fin _ 0 [] _ (by simp) ⟨rfl, .nil⟩)
      case z => exact nz11 (ints_len' hnv) hnl.2
      case step =>
        rintro i ys nw hi ⟨rfl, hys⟩ v I oI C oC D m₂ h tk E' hv hC hx F N off ne
        obtain ⟨x, t, hx1, rfl⟩ := ints_at hnv (by simpa using hv)
        with_reducible refine cutQ (fun y s' => Ex3 fun h' tk' t' => An4 (y = Value.int ((x % 16 : Nat) : Int) t') (s' = { s with heap := h', toks := tk' }) (Fr g L' h' (lwM (some (.ref sc)) (some (.ref nu)) (some (.str (ofL T) tt)) (some (.ref td)) wv (some (.ref rw)) none none)) (News g L' h' ((I, oI) :: (C, oC) :: (D, lst ys) :: [(rw, listOf (yvs : List Value).toArray k4), (wd, listOf (wvs : List Value).toArray k2), (nu, listOf (nvs : List Value).toArray k), (L' + 1 + 1 + 1, o1), (L' + 1 + 1, o2), (L' + 1, o3), (100, tabObj ps)]))) ?qa ?qb
        case qa =>
          intro Q hQ
          k_steps
          rw [show ((x : Int).fmod 16) = ((x % 16 : Nat) : Int) from by rw [Int.fmod_eq_emod_of_nonneg _ (by decide)]; rfl]
          exact hQ _ _ ⟨_, _, _, rfl, rfl, by assumption, by assumption⟩
        case qb =>
          rintro y s' ⟨h', tk', t', rfl, rfl, F', N'⟩
          refine CompEnd.intro F' N' _ (fun _ h => h) off (.inr ⟨_, .tail _ (.tail _ (.head _)), rfl, _, rfl⟩) ⟨rfl, ?_⟩
          have e : (codesL (numsOf script))[i]? = some (x % 16) := by unfold codesL; rw [List.getElem?_map, hx1]; rfl
          rw [List.take_add_one, e, List.map_append]
          exact hys.append (.cons _ _ .nil)
      case fin =>
        rintro ys nw ⟨rfl, hys⟩ D h tk F N o1'
        have o1'' := o1'
        obtain ⟨n1, n2, n3, n4, n5, n6, n7, _⟩ := o1''
        simp only at n1 n2 n3 n4 n5 n6 n7
        clear n1 n2 n3 n5 n6 n7
        obtain ⟨q1, q2⟩ := hq3
        have offr' := offr
        obtain ⟨r1, r2, r3, r4, r5, r6, _⟩ := offr'
        simp only at r1 r2 r3 r4 r5 r6
        clear r1 r2 r4 r5 r6
        k_steps
        rw [ints_len' hnv, List.take_of_length_le (by simp [codesL])] at hys
        rename_i h9 o9 F9 N9 d9
        exact hQ _ _ ⟨rfl, h9, _, D, ys, ys.length, o9, rfl, F9, N9, hys, d9, o1'⟩
    clear F N d1
    rintro f s' ⟨rfl, h', tk, cd, cvs, k5, o1, rfl, F, N, hcv, d1, offc⟩
    dsimp only
    have hcl : (codesL (numsOf script)).length ≤ 1000 := by unfold codesL; rw [List.length_map]; exact hnk
    refine h_cons (wpH_any ?_)
    with_reducible refine cutQ (fun (f : Flow) (s' : Shared) => f = .next ∧ Ex5 fun h' tk cu uvs k6 => An5 (s' = { s with heap := h', toks := tk }) (Fr g L' h' (lwM (some (.ref sc)) (some (.ref nu)) (some (.str (ofL T) tt)) (some (.ref td)) wv (some (.ref rw)) (some (.ref cu)) none)) (News g L' h' [(cu, listOf (uvs : List Value).toArray k6), (cd, listOf (cvs : List Value).toArray k5), (rw, listOf (yvs : List Value).toArray k4), (wd, listOf (wvs : List Value).toArray k2), (nu, listOf (nvs : List Value).toArray k), (L' + 1 + 1 + 1, o1), (L' + 1 + 1, o2), (L' + 1, o3), (100, tabObj ps)]) (IAre uvs ((starts W).map Int.ofNat)) (Off1 cu [(cd, listOf (cvs : List Value).toArray k5), (rw, listOf (yvs : List Value).toArray k4), (wd, listOf (wvs : List Value).toArray k2), (nu, listOf (nvs : List Value).toArray k), (L' + 1 + 1 + 1, o1), (L' + 1 + 1, o2), (L' + 1, o3), (100, tabObj ps)])) ?q11 ?q11'
    case q11 =>
      intro Q hQ
      have hm : HM := trivial
      k_dflt (refine Assign_cellComp (cl := [(S "codes", L' + 1 + 1 + 1)]) F rfl (by with_unfolding_all rfl) (by with_unfolding_all rfl) (fun _ => rfl) (fun _ => rfl) rfl (by decide) (by rfl) rfl rfl ?_)
      k_steps
      rename_i h0 tk0 t1 u1 v1 hR F0 N0 hk0
      rw [List.length_map] at hR
      refine CellSrc.range (fun i ys => IAre ys (((List.range i).filter (isCut (codesL (numsOf script)))).map Int.ofNat)) rfl F0 N0 hR hcl .nil ?turns ?fin
      case turns =>
        clear hR F0 N0 hk0
        intro i ys hi hys t I oI C oC X' oX D h tk E' hX F N ap
        with_reducible refine cutQ (fun (ok : Bool) s' => ok = isCut (codesL (numsOf script)) i ∧ ∃ h' tk', s' = { s with heap := h', toks := tk' } ∧ Fr g L' h' (lwM (some (.ref sc)) (some (.ref nu)) (some (.str (ofL T) tt)) (some (.ref td)) wv (some (.ref rw)) none none) ∧
          News g L' h' ((I, oI) :: (C, oC) :: (X', oX) :: (D, lst ys) :: [(cd, listOf (cvs : List Value).toArray k5), (rw, listOf (yvs : List Value).toArray k4), (wd, listOf (wvs : List Value).toArray k2), (nu, listOf (nvs : List Value).toArray k), (L' + 1 + 1 + 1, o1), (L' + 1 + 1, o2), (L' + 1, o3), (100, tabObj ps)])) ?qa ?qb
        case qa =>
          intro Q hQ
          k_steps
          rename_i h1 tk1 t2 u2 v2 hR1 F1 N1 hk1 hm1
          refine unhold (LCt.CompSrcT.range rfl F1 N1 hR1 (range_small (by omega)) (range_size (by omega)) (by have h3 : sizeLine = 16777216 := rfl; omega) fun g' => restT_of (n := i) (fun j ys' nw => nw = ((I, oI) :: (C, oC) :: (X', oX) :: (D, lst ys) :: [(cd, listOf (cvs : List Value).toArray k5), (rw, listOf (yvs : List Value).toArray k4), (wd, listOf (wvs : List Value).toArray k2), (nu, listOf (nvs : List Value).toArray k), (L' + 1 + 1 + 1, o1), (L' + 1 + 1, o2), (L' + 1, o3), (100, tabObj ps)]) ∧
              IAre ys' (((List.range j).filter (fun j => !(ltB ((codesL (numsOf script)).drop i) ((codesL (numsOf script)).drop j)))).map Int.ofNat)) ?step2 ?fin2 _ 0 [] _ (by omega) ⟨rfl, .nil⟩)
          case step2 =>
            clear hR1 F1 N1 hk1 hm1
            rintro j ys' nw hj ⟨rfl, hys'⟩ v I2 oI2 C2 oC2 D2 m₂ h2 tk2 E2 ⟨t3, rfl⟩ hC hx F N off ne
            rw [show (0 : Int) + (j : Int) = (j : Int) from Int.zero_add _] at *
            with_reducible refine cutQ (fun (ok : Bool) s' => ok = (!(ltB ((codesL (numsOf script)).drop i) ((codesL (numsOf script)).drop j))) ∧ ∃ h' tk', s' = { s with heap := h', toks := tk' } ∧ Fr g L' h' (lwM (some (.ref sc)) (some (.ref nu)) (some (.str (ofL T) tt)) (some (.ref td)) wv (some (.ref rw)) none none) ∧
              News g L' h' ((I2, oI2) :: (C2, oC2) :: (D2, lst ys') :: (I, oI) :: (C, oC) :: (X', oX) :: (D, lst ys) :: [(cd, listOf (cvs : List Value).toArray k5), (rw, listOf (yvs : List Value).toArray k4), (wd, listOf (wvs : List Value).toArray k2), (nu, listOf (nvs : List Value).toArray k), (L' + 1 + 1 + 1, o1), (L' + 1 + 1, o2), (L' + 1, o3), (100, tabObj ps)])) ?qe ?qf
            case qe =>
              intro Q hQ
              k_steps
              rename_i Dq wq hq Fq Nq hIq hWq lq hmq
              exact hQ _ _ ⟨rfl, hq, _, rfl, Fq, fun p hp => Nq p (.tail _ (.tail _ hp))⟩
            case qf =>
              rintro ok s' ⟨rfl, h', tk', rfl, F', N'⟩
              split
              · rename_i hc
                with_reducible refine cutQ (fun (y : Value) s' => y = Value.int (j : Int) t3 ∧ ∃ h' tk', s' = { s with heap := h', toks := tk' } ∧ Fr g L' h' (lwM (some (.ref sc)) (some (.ref nu)) (some (.str (ofL T) tt)) (some (.ref td)) wv (some (.ref rw)) none none) ∧
                  News g L' h' ((I2, oI2) :: (C2, oC2) :: (D2, lst ys') :: (I, oI) :: (C, oC) :: (X', oX) :: (D, lst ys) :: [(cd, listOf (cvs : List Value).toArray k5), (rw, listOf (yvs : List Value).toArray k4), (wd, listOf (wvs : List Value).toArray k2), (nu, listOf (nvs : List Value).toArray k), (L' + 1 + 1 + 1, o1), (L' + 1 + 1, o2), (L' + 1, o3), (100, tabObj ps)])) ?qg ?qh
                case qg =>
                  intro Q hQ
                  k_steps
                  exact hQ _ _ ⟨rfl, _, _, rfl, by assumption, by assumption⟩
                case qh =>
                  rintro y s' ⟨rfl, h', tk', rfl, F', N'⟩
                  refine CompEnd.intro F' N' _ (fun _ h => h) off trivial ⟨rfl, ?_⟩
                  rw [filt_snoc (p := fun j => !(ltB ((codesL (numsOf script)).drop i) ((codesL (numsOf script)).drop j))) hc, List.map_append]
                  exact hys'.append (.cons _ _ .nil)
              · rename_i hc
                refine CompEnd.intro F' N' _ (fun _ h => h) off trivial ⟨rfl, ?_⟩
                rw [filt_same (p := fun j => !(ltB ((codesL (numsOf script)).drop i) ((codesL (numsOf script)).drop j))) (by simpa using hc)]
                exact hys'
          case fin2 =>
            rintro ys' nw ⟨rfl, hys'⟩ D2 h2 tk2 F N off
            k_steps
            rename_i lq hq Fq Nq l1q hmq
            rw [← cut_filter]
            exact hQ _ _ ⟨rfl, hq, _, rfl, Fq, fun p hp => Nq p (.tail _ (.tail _ hp))⟩
        case qb =>
          rintro ok s' ⟨rfl, h', tk', rfl, F', N'⟩
          split
          · rename_i hc
            with_reducible refine cutQ (fun (y : Value) s' => y = Value.int (i : Int) t ∧ ∃ h' tk', s' = { s with heap := h', toks := tk' } ∧ Fr g L' h' (lwM (some (.ref sc)) (some (.ref nu)) (some (.str (ofL T) tt)) (some (.ref td)) wv (some (.ref rw)) none none) ∧
              News g L' h' ((I, oI) :: (C, oC) :: (X', oX) :: (D, lst ys) :: [(cd, listOf (cvs : List Value).toArray k5), (rw, listOf (yvs : List Value).toArray k4), (wd, listOf (wvs : List Value).toArray k2), (nu, listOf (nvs : List Value).toArray k), (L' + 1 + 1 + 1, o1), (L' + 1 + 1, o2), (L' + 1, o3), (100, tabObj ps)])) ?qc ?qd
            case qc =>
              intro Q hQ
              k_steps
              exact hQ _ _ ⟨rfl, _, _, rfl, by assumption, by assumption⟩
            case qd =>
              rintro y s' ⟨rfl, h', tk', rfl, F', N'⟩
              refine ⟨?_, _, _, rfl, F', N'⟩
              show IAre _ _
              rw [filt_snoc hc, List.map_append]
              exact hys.append (.cons _ _ .nil)
          · rename_i hc
            refine ⟨?_, _, _, rfl, F', N'⟩
            show IAre _ _
            rw [filt_same (by simpa using hc)]
            exact hys
      case fin =>
        intro D h tk ys hys F N off
        refine hQ _ _ ⟨rfl, h, tk, D, ys, ys.length, rfl, frEq F (ext_lw rfl rfl rfl rfl rfl rfl rfl rfl fun y k1 k2 k3 k4 k5 k6 k7 k8 => by (repeat (first | refine (if_neg k1).trans ?_ | refine (if_neg k2).trans ?_ | refine (if_neg k3).trans ?_ | refine (if_neg k4).trans ?_ | refine (if_neg k5).trans ?_ | refine (if_neg k6).trans ?_ | refine (if_neg k7).trans ?_ | refine (if_neg k8).trans ?_)); exact (lw_none k1 k2 k3 k4 k5 k6 k7 k8).symm), N, ?_, off⟩
        rw [← hWc]; exact hys
    clear F N
    rintro f s' ⟨rfl, h', tk, cu, uvs, k6, rfl, F, N, huv, offu⟩
    dsimp only
    have hsl : (starts W).length ≤ 8 := by rw [starts_len]; exact hW8
    have hul : uvs.length = W.length := by rw [ints_len' huv, starts_len]
    refine h_cons (wpH_any ?_)
    with_reducible refine cutQ (fun (f : Flow) (s' : Shared) => f = .next ∧ Ex5 fun h' tk du zvs k7 => An4 (s' = { s with heap := h', toks := tk }) (Fr g L' h' (lwM (some (.ref sc)) (some (.ref nu)) (some (.str (ofL T) tt)) (some (.ref td)) wv (some (.ref rw)) (some (.ref cu)) (some (.ref du)))) (News g L' h' [(du, listOf (zvs : List Value).toArray k7), (cu, listOf (uvs : List Value).toArray k6), (cd, listOf (cvs : List Value).toArray k5), (rw, listOf (yvs : List Value).toArray k4), (wd, listOf (wvs : List Value).toArray k2), (nu, listOf (nvs : List Value).toArray k), (L' + 1 + 1 + 1, o1), (L' + 1 + 1, o2), (L' + 1, o3), (100, tabObj ps)]) (StrsAre zvs ((W.map textL).map ofL))) ?q12 ?q12'
    case q12 =>
      intro Q hQ
      have hm : HM := trivial
      k_dflt (refine Assign_zipComp (cl := [(S "words", L' + 1)]) F rfl (by with_unfolding_all rfl) (by with_unfolding_all rfl) (by decide) (by rfl) (by decide) (by rfl) (by rfl) (by decide) (by rfl) (by rfl) ?_)
      k_steps
      rename_i D1 w1 h1 hI1 hW1 l1 t1 tk1 l2 h2 F2 N2 l3 hm2 D3 h3 F3 N3 l4 hm3
      have hvs2 : IAre (w1 ++ [Value.int ((numsOf script).length : Int) t1]) (((starts W).tail ++ [(numsOf script).length]).map Int.ofNat) := by
        rw [List.map_append, ← List.drop_one]
        exact hI1.append (.cons _ _ .nil)
      clear l1 l3 l4
      refine unhold (zipSrc (fun i zs => StrsAre zs (((W.map textL).take i).map ofL)) rfl F3 N3 (.tail _ (.tail _ (.tail _ (.head _)))) (.head _) (by rw [hul]; exact hWk) .nil (fun g' => ?turns) ?fin)
      case turns =>
        clear F2 N2 F3 N3
        intro i zs vx vy hvx hvy hzs z oz a1 b1 a2 b2 a3 b3 a4 b4 C oC m₂ D h tk E' hC hx1 hx2 F N
        obtain ⟨a, ta, ha, rfl⟩ := ints_at huv (by simpa using hvx)
        obtain ⟨b, tb, hb, rfl⟩ := ints_at hvs2 (by simpa using hvy)
        have hp := piece_at hWp ha hb
        have hpe : piece (numsOf script) (a, b) = ((numsOf script).take b).drop a := rfl
        rw [hpe] at hp
        have hbl : b ≤ (numsOf script).length := by
          have := starts_le hWf ((starts W).tail ++ [(numsOf script).length]) (fun x hx => by
            rcases List.mem_append.mp hx with hx | hx
            · exact .inl (List.mem_of_mem_tail hx)
            · simp at hx; exact .inr hx) b (List.mem_of_getElem? hb)
          exact this
        have hz : ((((numsOf script).take b).drop a).map wordL).flatten.length ≤ 1000000 := by
          have h8 := words_flat (((numsOf script).take b).drop a)
          exact nz9 h8 (by rw [List.length_drop, List.length_take]; exact nz8 hbl hnl.2)
        have hwv2 : StrsAre wvs ((numsOf script).map fun x => ofL (wordL x)) := hwv
        clear hp hpe
        with_reducible refine cutQ (fun y s' => Ex3 fun h' tk' t' => An4 (y = Value.str (ofL ((((numsOf script).take b).drop a).map wordL).flatten) t') (s' = { s with heap := h', toks := tk' }) (Fr g L' h' (lwM (some (.ref sc)) (some (.ref nu)) (some (.str (ofL T) tt)) (some (.ref td)) wv (some (.ref rw)) (some (.ref cu)) none)) (News g L' h' ((z, oz) :: (a1, b1) :: (a2, b2) :: (a3, b3) :: (a4, b4) :: (C, oC) :: (D, lst zs) :: [(D3, listOf (w1 ++ [Value.int ((numsOf script).length : Int) t1]).toArray 0), (l2, listOf #[Value.int ((numsOf script).length : Int) t1] 0), (D1, listOf (w1 : List Value).toArray 0), (cu, listOf (uvs : List Value).toArray k6), (cd, listOf (cvs : List Value).toArray k5), (rw, listOf (yvs : List Value).toArray k4), (wd, listOf (wvs : List Value).toArray k2), (nu, listOf (nvs : List Value).toArray k), (L' + 1 + 1 + 1, o1), (L' + 1 + 1, o2), (L' + 1, o3), (100, tabObj ps)]))) ?qa ?qb
        case qa =>
          intro Q hQ
          k_steps
          rename_i D9 w9 h9 F9 N9 hI9 l9 t9 k9
          exact hQ _ _ ⟨h9, _, t9, rfl, rfl, F9, fun p hp => N9 p (.tail _ hp)⟩
        case qb =>
          rintro y s' ⟨h', tk', t', rfl, rfl, F', N'⟩
          refine ⟨?_, _, _, rfl, F', N'⟩
          have hp : (W.map textL)[i]? = some ((((numsOf script).take b).drop a).map wordL).flatten := by
            rw [List.getElem?_map, piece_at hWp ha hb]
            rw [← List.flatMap_def]
            rfl
          exact strs_snocL hzs hp
      case fin =>
        intro D h tk zs hzs F N off
        have hmin : min uvs.length (w1 ++ [Value.int ((numsOf script).length : Int) t1]).length = W.length := by
          have hl := ints_len' hvs2
          rw [hl, List.length_append, List.length_tail, starts_len, hul]
          exact nz7 _
        rw [hmin, List.take_of_length_le (by simp)] at hzs
        refine hQ _ _ ⟨rfl, h, tk, D, zs, zs.length, rfl, frEq F (ext_lw rfl rfl rfl rfl rfl rfl rfl rfl fun y k1 k2 k3 k4 k5 k6 k7 k8 => by (repeat (first | refine (if_neg k1).trans ?_ | refine (if_neg k2).trans ?_ | refine (if_neg k3).trans ?_ | refine (if_neg k4).trans ?_ | refine (if_neg k5).trans ?_ | refine (if_neg k6).trans ?_ | refine (if_neg k7).trans ?_ | refine (if_neg k8).trans ?_)); exact (lw_none k1 k2 k3 k4 k5 k6 k7 k8).symm), fun q hq => N q ?_, hzs⟩
        rcases List.mem_cons.mp hq with rfl | hq
        · exact .head _
        · exact .tail _ (.tail _ (.tail _ (.tail _ hq)))
    clear F N
    rintro f s' ⟨rfl, h', tk, du, zvs, k7, rfl, F, N, hzv⟩
    dsimp only
    have hzl : zvs.length = W.length := by rw [StrsAre.len hzv, List.length_map, List.length_map]
    refine h_cons (wpH_any ?_)
    have hm : HM := trivial
    k_steps
    rename_i l4 h4 F4 N4 l4' t4 tk4 t5 tk5 hm4
    refine unhold (mulK (d := (numsOf script).length + 1 - W.length) F4 N4 (.head _) (nz4 hWl) (nz3 hWl hnl.2) fun D9 h9 F9 N9 l9 => ?_)
    k_lt l9
    have hz9 := nz5 hzl hWl hnl.2
    k_steps
    rename_i hm5 D10 h10 F10 N10 l10 hm6
    have hzs : StrsAre (zvs ++ List.replicate ((numsOf script).length + 1 - W.length) (.str (Str.ofString "") tk)) (rowL.map ofL) := by
      rw [hrow, List.map_append]
      exact hzv.append (strs_nils _)
    have hos : ∀ l ∈ rowL, ∀ c ∈ l, c < 128 := fun l hl c hc => by
      rw [hrow] at hl
      rcases List.mem_append.mp hl with hl | hl
      · obtain ⟨xs, _, rfl⟩ := List.mem_map.mp hl
        obtain ⟨x, _, hc⟩ := List.mem_flatMap.mp hc
        exact word_small x c hc
      · rw [List.eq_of_mem_replicate hl] at hc
        exact nomatch hc
    refine unhold (eqK N10 (.tail _ (.tail _ (.tail _ (.tail _ (.tail _ (.tail _ (.head _))))))) (.head _) hyv hzs hos (by simp only [units_deeper]; (try dsimp only); omega) ?_)
    k_steps
    exact ⟨h10, _, rfl, F10.keep, ps, rfl, (N10 (100, tabObj ps) (by simp)).1⟩
  · rintro v' h' tk hm ⟨ps, rfl, e1⟩
    exact ret h' tk ps hm e1
end Mine
end

section
open PySem PySem.W PySem.Calls PyProof.Rows PyProof.Rows.LCg
set_option maxRecDepth 100000
set_option maxHeartbeats 8000000
set_option linter.unusedVariables false
namespace Mine
theorem law_end {c : ClaimW} {cl : Str → Option Addr} {mean : ExcName → Option Value} {args : List WData} {s₁ : Shared} {h' : Heap} {tk : Nat} {ps : Array Value} (hT : TabsAt [(104, 100)] s₁.heap) (hg : s₁.gens = #[]) (hr : ∀ cls, c.raises args cls = false) (hp : c.post args (.bool true) args = true)
    (hm : Mod [100] s₁.heap h') (h1 : h'.get? 100 = some (tabObj ps)) : GoodWG c cl mean args s₁ (.ok (.ret (.bool true))) { s₁ with heap := h', toks := tk } := by
  refine ⟨.inl ⟨_, _, [], rfl, hr, ReadsW.bool true, hp, fun _ => ⟨List.nodup_nil, fun _ hm => (nomatch hm)⟩⟩, ⟨fun b o e => ?_, fun b o e => ?_⟩, rfl, .of_eq hg⟩
  · by_cases hb : b = 100
    · subst hb
      have e2 := (hT _ (.head _)).2
      rw [e] at e2
      obtain rfl := Option.some.inj e2
      exact .inr (.inl ⟨((hT _ (.head _)).1.tab (hT _ (.head _)).2).isCodeTable, rfl, #[], ps, rfl, by rw [Array.empty_append]; exact h1⟩)
    · exact .inl (hm b o e (by simpa using hb))
  · by_cases hb : b = 100
    · subst hb; exact ⟨_, h1⟩
    · exact ⟨o, hm b o e (by simpa using hb)⟩
set_option maxHeartbeats 8000000 in
theorem law_holds : PySem.Challenge.rw_pe0067_01.Holds := by
  refine hd ?_
  k_fill
  intro w s₀ s₁ mg mb G Y fa o pm cd doc dV kV ho hd' hcd hD hmg hg args vals as hpre hlay hrd hwl hlo
  have KX := km_in_of Y
  km_tabs Y
  have X := (Ground.X G).1
  have V := (Ground.X G).2
  refine Ground.open G ?_
  intro T B D TE TW
  try (refine guard_noD D (by decide +kernel) ?_; clear D)
  km_lay T hmg ho hd' cd
  wrow_args hpre hlay hrd hwl hlo
  rename_i script hs hl0 hL0 hr0 hl2 as4 as3 lx vs as0 hL ra w1 r0 hI hr1 hc1 hc2
  have e : mg (S "law") = some (.ref 124) := mg_of KX T.g (by k_is)
  obtain rfl : fa = 124 := by
    have e2 := hmg.symm.trans e
    simpa using e2
  refine wpH_call ?_
  show codeH _ (Aw none (1 + claimMargin) [] (some []) 4) _ _ _
  have G0 : Gd w (ghostOf s₁.heap [(104, 100)]) [] s₁.heap [100] := {
    X := ghost_K hT9 KX (by kernel_rfl)
    T := ⟨_, _, _, _, _, ghost_top hT9 T⟩
    st := fun b o q => of_hideAll _ q
    ff := trivial
    ap := fun a ha => ⟨hideAll_none _ (by simpa using ha), fun _ h => nomatch h⟩ }
  refine law_c G0 (hT8 100 (.head _)) (ghost_list hT9 hL) hI (by omega) (by decide) (by decide) fun h' tk ps hm h1 => ?_
  exact law_end hT9 hg (fun _ => rfl) (by first | rfl | wrow_post) hm h1
end Mine
end

open PySem PySem.W PyProof.Rows
set_option maxRecDepth 100000 in
set_option maxHeartbeats 8000000 in
theorem PySem.Challenge.cw_pe0067_01_holds : PySem.Challenge.rw_pe0067_01.Holds := by
  exact Mine.law_holds

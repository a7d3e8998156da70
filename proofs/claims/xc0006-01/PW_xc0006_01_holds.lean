import PyProof.Rows.All
import Wide.All
import OpenK.AllK
import Wide.FinOn
import PySem.Challenge.RW_xc0006_01
set_option Elab.async false
local macro_rules | `(tactic| walk_at $s:str) => `(tactic| k_extra $s)
section
open PySem PySem.W PyProof.Rows
set_option maxRecDepth 100000
set_option maxHeartbeats 0
namespace Mine
open_top hd for PySem.Challenge.rw_xc0006_01
end Mine
end
section
open PySem PySem.W PySem.Spec PySem.Calls PyProof.Rows
set_option maxRecDepth 100000
namespace Mine
noncomputable abbrev lz : List PySem.Str := looseW hd.view_39 [Str.ofString "_twin_re_1", Str.ofString "_twin_re_2"]
noncomputable abbrev Ledger := List (Addr × Obj)
noncomputable abbrev Names := PySem.Str → Option Value
noncomputable abbrev Post := Value → Shared → Prop

/-- a call of a def of the text, from any def's frame, k frames deep at most -/
noncomputable abbrev CClaim (w : World) (mean : ExcName → Option Value) (mg mb : Names) (k : Nat) (f : Addr) (news : Ledger) (pre : Heap → Prop) (vs : List Value)
    (ret : Heap → Addr → Names → Shared → Post → Post → Prop) : Prop :=
  ∀ (dp un : Nat) (gd : Option (List Code)) (cn : PySem.Str) (cs : Scope) (a : Addr) (ccd : Value) (cl : List (PySem.Str × Addr)) (outer : List Env) (A₀ : Around) (base h₀ : Heap) (L : Addr) (m : Names) (s : Shared) (Q E : Post),
    Below A₀ base outer h₀ → Fr h₀ L s.heap m → (hd.heap_39 w.params).In h₀ → News h₀ L s.heap news → Top hd.view_39 lz mean mg mb h₀ → cs.kind = .function → pre h₀ →
    dp + k < recursionLimit → un + 8 * k < cLine → ret h₀ L m s Q E →
      wpAny (model PySem.Challenge.rw_xc0006_01.row.prog w) (ktrTop dp un gd cn cs L a ccd cl outer) (call (.ref f) vs) Q E s
end Mine
end
section
open PySem
set_option maxRecDepth 100000
namespace Mine
open Sem (wp)

/-- the claim's own caller stands on the stack -/
noncomputable def Called (Γ : Ctx) : Prop := Γ.code.isCaller = true ∨ Γ.below.any (fun x => x.1.isCaller) = true
noncomputable def wpC {α : Type} (M : Model) (A : Around) (t : Sem α) (Q : α → Shared → Prop) (E : Value → Shared → Prop) (s : Shared) : Prop :=
  ∀ Γ p, Γ.In A → Called Γ → wp M Γ t (fun a _ s' => Q a s') (fun e _ s' => E e s') p s
noncomputable def codeC (M : Model) (A : Around) (c : Code) (R : Result → Shared → Prop) (s : Shared) : Prop :=
  ∀ Γ p, Γ.code = c → Γ.Below A → Γ.below.any (fun x => x.1.isCaller) = true → wpCode M Γ R p s

section
variable {α β : Type} {M : Model} {A : Around} {E : Value → Shared → Prop} {s : Shared}

theorem c_any {t : Sem α} {Q : α → Shared → Prop} (h : wpAny M A t Q E s) : wpC M A t Q E s := fun Γ p hΓ _ => h Γ p hΓ
theorem code_any {c : Code} {R : Result → Shared → Prop} (h : codeAny M A c R s) : codeC M A c R s := fun Γ p hc hΓ _ => h Γ p hc hΓ
theorem c_pure {a : α} {Q : α → Shared → Prop} (h : Q a s) : wpC M A (pure a) Q E s := fun _ _ _ _ => h
theorem c_throw {e : Value} {Q : α → Shared → Prop} (h : E e s) : wpC M A (throw e : Sem α) Q E s := fun _ _ _ _ => h
theorem c_mono {t : Sem α} {Q Q' : α → Shared → Prop} {E' : Value → Shared → Prop} (h : wpC M A t Q E s)
    (hQ : ∀ a s, Q a s → Q' a s) (hE : ∀ e s, E e s → E' e s) : wpC M A t Q' E' s :=
  fun Γ p hΓ hc => Sem.wp_mono M Γ t (fun a _ s => hQ a s) (fun e _ s => hE e s) p s (h Γ p hΓ hc)
theorem code_mono {c : Code} {R R' : Result → Shared → Prop} (h : codeC M A c R s) (hR : ∀ r s, R r s → R' r s) : codeC M A c R' s :=
  fun Γ p hc hΓ hh => wpCode_mono hR (h Γ p hc hΓ hh)
theorem c_bind {m : Sem α} {f : α → Sem β} {Q : β → Shared → Prop} (h : wpC M A m (fun a s' => wpC M A (f a) Q E s') E s) :
    wpC M A (m >>= f) Q E s := fun Γ p hΓ hc => by
  rw [Sem.wp_bind']
  exact Sem.wp_mono M Γ m (fun a p' s' h' => h' Γ p' hΓ hc) (fun _ _ _ h' => h') p s (h Γ p hΓ hc)
/-- a step off the road, then on -/
theorem c_step {m : Sem α} {f : α → Sem β} {Q : β → Shared → Prop} (h : wpAny M A m (fun a s' => wpC M A (f a) Q E s') E s) :
    wpC M A (m >>= f) Q E s := c_bind (c_any h)
theorem c_map {m : Sem α} {f : α → β} {Q : β → Shared → Prop} (h : wpC M A m (fun a s' => Q (f a) s') E s) :
    wpC M A (f <$> m) Q E s := fun Γ p hΓ hc => by rw [Sem.wp_map]; exact h Γ p hΓ hc
theorem c_tryCatch {m : Sem α} {k : Value → Sem α} {Q : α → Shared → Prop} (h : wpC M A m Q (fun e s' => wpC M A (k e) Q E s') s) :
    wpC M A (tryCatch m k) Q E s := fun Γ p hΓ hc => by
  rw [Sem.wp_tryCatch']
  exact Sem.wp_mono M Γ m (fun _ _ _ h' => h') (fun e p' s' h' => h' Γ p' hΓ hc) p s (h Γ p hΓ hc)
theorem c_onRaise {m : Sem α} {k : Value → Sem Unit} {Q : α → Shared → Prop}
    (h : wpC M A m Q (fun e s' => wpC M A (k e) (fun _ s'' => E e s'') E s') s) : wpC M A (m.onRaise k) Q E s := fun Γ p hΓ hc => by
  rw [Sem.wp_onRaise]
  exact Sem.wp_mono M Γ m (fun _ _ _ h' => h') (fun e p' s' h' => h' Γ p' hΓ hc) p s (h Γ p hΓ hc)
theorem c_attempt {m : Sem α} {Q : Except Value α → Shared → Prop} (h : wpC M A m (fun a => Q (.ok a)) (fun e => Q (.error e)) s) :
    wpC M A m.attempt Q E s := fun Γ p hΓ hc => by rw [Sem.wp_attempt]; exact h Γ p hΓ hc
theorem c_holding {vs : List Value} {m : Sem α} {Q : α → Shared → Prop} (h : wpC M A m Q E s) : wpC M A (holding vs m) Q E s :=
  fun Γ p hΓ hc => by rw [Sem.wp_holding]; exact h Γ p hΓ hc

theorem called_enter {Γ : Ctx} (c : Code) (hd : Option Value) (p : Pos) (h : Called Γ) : (Γ.enter c hd p).below.any (fun x => x.1.isCaller) = true := by
  show ((Γ.code, p) :: Γ.below).any (fun x => x.1.isCaller) = true
  rw [List.any_cons, Bool.or_eq_true]
  exact h

theorem c_run {c : Code} {h : Option Value} {Q : Flow → Shared → Prop}
    (hc : codeC M (A.mark h) c (fun r s' => match r with | .ok f => Q f s' | .error e => E e s') s) (hnb : h ≠ some byPass := by intro x; cases x) :
    wpC M A (run c h) Q E s :=
  fun Γ p hΓ hh => by rw [Sem.wp_run]; exact hc _ p rfl (hΓ.enter c h p hnb) (called_enter c h p hh)
theorem c_runValue {c : Code} {Q : Value → Shared → Prop}
    (hc : codeC M A c (fun r s' => match r with | .ok (.ret v) => Q v s' | .ok _ => False | .error e => E e s') s) :
    wpC M A (runValue c) Q E s := fun Γ p hΓ hh => by rw [Sem.wp_runValue]; exact hc _ p rfl (hΓ.enter c none p (by intro x; cases x)) (called_enter c none p hh)
theorem c_call {f : Value} {pos : List Value} {kw : List (Str × Value)} {Q : Value → Shared → Prop}
    (hc : codeC M A (.call f ⟨pos, kw⟩) (fun r s' => match r with | .ok (.ret v) => Q v s' | .ok _ => False | .error e => E e s') s) :
    wpC M A (call f pos kw) Q E s := c_runValue hc

theorem code_tree {c : Code} {R : Result → Shared → Prop}
    (h : wpC M (A.under c) (M.den c) (fun fin s' => match fin with | .done f => R (.ok f) s' | .again c' => c'.quiet = true ∧ codeC M A c' R s')
      (fun e s' => R (.error e) s') s) : codeC M A c R s := fun Γ p hc hΓ hh => by
  rw [wpCode_iff_wp, hc]
  refine Sem.wp_mono M Γ _ (fun fin p' s' h' => ?_) (fun _ _ _ h' => h') p s (h Γ p (hc ▸ hΓ.in) (.inr hh))
  cases fin with
  | done f => exact h'
  | again c' => exact ⟨h'.1, h'.2 (Γ.goto c') p' rfl (hΓ.goto c') hh⟩

/-- what the stack says on the road: the caller stands in it -/
theorem c_stack {Q : List (Code × Pos) → Shared → Prop}
    (h : ∀ st : List (Code × Pos), st.any (fun x => x.1.isCaller) = true → Q st s) : wpC M A stack Q E s := fun Γ p _ hc => by
  show Q ((Γ.code, p) :: Γ.below) s
  exact h _ (by rw [List.any_cons, Bool.or_eq_true]; exact hc)
end

section
variable {M : Model} {A : Around} {E : Value → Shared → Prop} {s : Shared} {env : Env}
theorem c_execs_nil {Q : Flow → Shared → Prop} (h : Q .next s) : wpC M A (execs [] env) Q E s := fun _ _ _ _ => h
theorem c_execs_cons {st rest} {Q : Flow → Shared → Prop}
    (h : wpC M A (exec st env) (fun f s' => match f with | .next => wpC M A (execs rest env) Q E s' | f => Q f s') E s) :
    wpC M A (execs (st :: rest) env) Q E s := by
  rw [execs_cons]
  refine c_bind (c_mono h (fun f s' h' => ?_) fun _ _ x => x)
  cases f <;> first | exact h' | exact c_pure h'
theorem wp_execs_append {Γ : Ctx} {Q : Flow → Pos → Shared → Prop} {E' : Value → Pos → Shared → Prop} {l₂ : List Stmt} : ∀ {l₁ : List Stmt} {p : Pos} {s : Shared},
    wp M Γ (execs l₁ env) (fun f p' s' => match f with | .next => wp M Γ (execs l₂ env) Q E' p' s' | f => Q f p' s') E' p s → wp M Γ (execs (l₁ ++ l₂) env) Q E' p s
  | [], p, s, h => h
  | st :: l₁, p, s, h => by
    show wp M Γ (execs (st :: (l₁ ++ l₂)) env) Q E' p s
    rw [execs_cons, Sem.wp_bind'] at h ⊢
    refine Sem.wp_mono M Γ _ (fun f p' s' h' => ?_) (fun _ _ _ h' => h') _ _ h
    cases f with
    | next => exact wp_execs_append h'
    | brk => exact h'
    | cont => exact h'
    | ret v => exact h'
/-- the statements ahead of the road, then the road -/
theorem c_execs_append {l₁ l₂ : List Stmt} {Q : Flow → Shared → Prop}
    (h : wpAny M A (execs l₁ env) (fun f s' => match f with | .next => wpC M A (execs l₂ env) Q E s' | f => Q f s') E s) : wpC M A (execs (l₁ ++ l₂) env) Q E s := fun Γ p hΓ hc => by
  refine wp_execs_append (Sem.wp_mono M Γ _ (fun f p' s' h' => ?_) (fun _ _ _ h' => h') _ _ (h Γ p hΓ))
  cases f with
  | next => exact h' Γ p' hΓ hc
  | brk => exact h'
  | cont => exact h'
  | ret v => exact h'
end

theorem and3 {a b c : Bool} (h : a = true) : ((!a && b) && c) = false := by rw [h]; rfl
/-- a refusal that the claim's caller lies below leaves no mark -/
theorem c_mark {M : Model} {A : Around} {E : Value → Shared → Prop} {s : Shared} {own : List String} {e : Value} {Q : Unit → Shared → Prop} (h : Q () s) :
    wpC M A (markTheRefusal own e) Q E s := by
  unfold markTheRefusal
  refine c_bind (c_stack fun st hst => ?_)
  have : pythonCodeMadeTheCall own (st.map (·.1)) = false := and3 (by rw [List.any_map]; exact hst)
  rw [this]
  exact c_pure h
end Mine
end
section
open PySem PySem.W PySem.Calls PyProof.Rows
set_option maxRecDepth 100000
namespace Mine
open Sem (wp)

/-- the claim's own thread, from what holds under its caller -/
theorem thread_C {prog : Program} {w : World} {t : Sem PySem.Fin} {s : Shared} {R : Result → Shared → Prop} (hreg : s.asleep)
    (h : wpC (model prog w) callerA t (fun fin s' => ∃ f, fin = .done f ∧ (R (.ok f) s' ∧ leftWithCleanup s'.gens = false)) (fun e s' => R (.error e) s' ∧ leftWithCleanup s'.gens = false) s) :
    ∃ n r s' s'', runN (denote table) prog w n s ⟨t, .builtin "claim.caller" {}, default, []⟩ = .halted (outcomeOf r) s' ∧
      schedN (denote table) prog w n (.single s ⟨t, .builtin "claim.caller" {}, default, []⟩) = .halted (outcomeOf r) s' ∧ s'.forget = s''.forget ∧ R r s'' := by
  have h1 := h _ default caller_in (.inl rfl)
  obtain ⟨n, r, s₁, s₂, hs, hn, hfo, hR⟩ := wp_halts_full (M := model prog w) (R := R) hreg (by
    refine Sem.wp_mono _ _ t (fun fin p' s' h' => ?_) (fun _ _ _ h' => h') default s h1
    obtain ⟨f, rfl, hf⟩ := h'
    exact hf)
  exact ⟨n, r, s₂, s₁, hn, hs, hfo, hR⟩

theorem callFrom_C {c : ClaimW} {tree : List Value → Sem PySem.Fin} {w : World} {s : Shared} {free : Addr → Prop} {gens : Prop} {kept : Heap → Prop} (hz : s.asleep) (hgens : s.gens = #[])
    (hspec : ∀ args, c.pre args = true → WData.layableAll args = true → ∀ ord : List DictEntry → List DictEntry, (∀ l, (ord l).Perm l) →
      ∃ vs s₁, layAllW c.records (classAt s.heap) w.params ord args s = some (vs, s₁) ∧
        wpC (model c.prog w) callerA (tree vs) (fun fin s' => ∃ f, fin = .done f ∧ (c.Ends s args vs s₁ (.ok f) s' ∧ s'.os = s.os ∧ AllBare s'.gens ∧ kept s'.heap))
          (fun e s' => c.Ends s args vs s₁ (.error e) s' ∧ s'.os = s.os ∧ AllBare s'.gens ∧ kept s'.heap) s₁) :
    c.CallFrom (fun vs => ⟨tree vs, .builtin "claim.caller" {}, default, []⟩) w free gens kept s := by
  intro args hpre hlay ord hord
  obtain ⟨vs, s₁, hlaid, hcode⟩ := hspec args hpre hlay ord hord
  have hal := layAllW_rest _ _ _ hlaid
  obtain ⟨k, r, s', s'', hrun, hsched, hfo, hcase, hos, hkp⟩ := thread_C (prog := c.prog) (w := w) (t := tree vs) (s := s₁)
    (R := fun r s' => c.Ends s args vs s₁ r s' ∧ s'.os = s.os ∧ kept s'.heap) (Shared.asleep_of_life hal.2.2.2 hz)
    (c_mono hcode (fun fin s' ⟨f, e, h1, h2, h3, h4⟩ => ⟨f, e, ⟨h1, h2, h4⟩, leftWithCleanup_false_of_bare h3⟩) (fun e s' ⟨h1, h2, h3, h4⟩ => ⟨⟨h1, h2, h4⟩, leftWithCleanup_false_of_bare h3⟩))
  obtain ⟨eh, _, _, eo, _⟩ := Shared.forget_eq hfo
  have hcase := hcase.congr eh
  have hkp : kept s'.heap := eh ▸ hkp
  rw [← eo] at hos
  have hlife : s'.heap.life = s.heap.life := (runN_life _ _ _ hrun).trans hal.2.2.2
  refine ⟨vs, s₁, hlaid, k, _, s', hsched, ?_, (fun _ i x hx => by rw [hgens] at hx; simp at hx), hkp, by rw [hlife], Shared.rest_eq hos⟩
  rcases hcase with ⟨v, rfl, d1, d2, d3, d4, d5⟩ | ⟨e, ob, cls, rfl, d1, d2, d3, d4, d5⟩
  · exact .inl ⟨v, rfl, d1, d2, d3, fun b o y _ => d4 b o y, d5⟩
  · exact .inr ⟨e, ob, cls, rfl, d1, d2, d3, d4, fun b o y _ => d5 b o y⟩

noncomputable abbrev WalkC (q : Program) (loose : List PySem.Str) (XP : (PySem.Str → Option Value) → Heap → Prop) (YP : World → Heap → Prop) (r : RowW) (d : DefRec) (kwd : List (PySem.Str × PySem.Expr)) : Prop :=
  ∀ (w : World) (s₀ s₁ : Shared) (mg mb : PySem.Str → Option Value), Ground q loose r.records XP w s₀ mg mb s₁.heap → YP w s₁.heap → ∀ (a : Addr) (o : Obj) (pm cd doc dV kV : Value), s₁.heap.get? a = some o →
    o.data = .func { docDef d.name d.params d.body d.scope pm cd doc with defaults := dV, kwdefaults := kV } → s₁.heap.CodeRec cd d.name → Dflts mg s₁.heap d.params kwd dV kV → mg d.name = some (.ref a) → s₁.gens = #[] →
    ∀ (args : List WData) (vals : List Value) (as : List Addr), r.claim.pre args = true → WData.layableAll args = true → ReadsAllW r.records (classAt s₀.heap) s₁.heap vals args as → WellAll w.params s₁.heap vals args → (∀ a ∈ as, (a == sysModules) = false) →
      wpC (model r.prog w) callerA (PySem.call (.ref a) vals) (fun v s' => GoodWG r.claim (classAt s₀.heap) (ExcName.means s₀.heap) args s₁ (.ok (.ret v)) s')
        (fun e s' => GoodWG r.claim (classAt s₀.heap) (ExcName.means s₀.heap) args s₁ (.error e) s') s₁

/-- the head, under the caller -/
theorem holds_C {r : OpenRow} {q : Program} {loose : List PySem.Str} {Xt : Shared → Bool} {XP : (PySem.Str → Option Value) → Heap → Prop} {α : Type} {Yf : Shared → α} {Ya : World → α} {YP : World → Heap → Prop} {d : DefRec} {kwd : List (PySem.Str × PySem.Expr)} {N : Nat}
    (left : LeftO r.prog q loose Xt Yf Ya N) (hY : ∀ w s, Yf s = Ya w → YP w s.heap) (hYk : ∀ w h h', YP w h → (∀ b o, h.get? b = some o → h'.get? b = some o) → YP w h')
    (hX : ∀ s, Xt s = true → XP (s.heap.nsMap mainGlobals) s.heap) (hXk : ∀ mg h h', XP mg h → (∀ b o, h.get? b = some o → h'.get? b = some o) → XP mg h')
    (hdef : defOf q r.name = some (d, kwd)) (hp : r.prog.theDef r.name = some (d.params, d.body, d.scope)) (hk : kwWritten? d.params.kwonlyargs d.params.kw_defaults = some kwd) (hRf : ∀ s, Xt s = true → RecFacts r.records s.heap) (hwr : (!r.writes || r.records.isEmpty) = true)
    (k1 : r.wellSaid = true) (ok : (chainsOk q && opensWell r.prog && (frees r.toRowW && r.within.isEmpty)) = true) (hb : r.prog.bare) (hw : r.toRowW.promised)
    (walk : WalkC q loose XP YP r.toRowW d kwd) : r.Holds := by
  have ok₀ := ok
  simp only [Bool.and_eq_true] at ok
  obtain ⟨⟨hch, o1⟩, kf, k6⟩ := ok
  obtain ⟨hsame, hu, ha, hap, hm⟩ := frees_parts kf
  have hi := ident_freeW hu ha hap
  have hwi : r.toRowW.claim.within = [] := List.isEmpty_iff.mp k6
  refine ⟨k1, hw, ⟨hb, o1, by show r.makers.map _ = []; rw [hm]; rfl⟩, hw.witness, fun w => ?_⟩
  have LB := left.behind (XP := fun mg h => XP mg h ∧ RecFacts r.records h) (fun s hs => ⟨hX s hs, hRf s hs⟩) hch w
  refine ⟨LB.1, fun s' hs' => ?_⟩
  obtain ⟨s₀, hf, hg0, s, hT, hz, hgens, hg, G, y⟩ := LB.2 s' hs'
  have G0 : Ground q loose [] XP w s (s.heap.nsMap mainGlobals) (s.heap.nsMap builtinsNs) s.heap := ⟨G.T, G.B, G.D, G.TE, G.TD, G.W, G.X.1, G.cls, G.has, G.apart, G.once, G.K⟩
  have RF := G.X.2
  have hT' := hT
  have hgens : s.gens = #[] := Array.eq_empty_of_size_eq_zero (beq_iff_eq.mp hgens)
  have GR : Ground q loose r.toRowW.records XP w s _ _ s.heap := RF.ground G0
  refine ⟨s₀, hf, hg0, s, hT, fun n hn => ?_, RF.1, RF.2.1, callFrom_C (c := r.toRowW.claim) hz hgens fun args hpre hlay ord hord => ?_⟩
  · obtain rfl : n = r.name := by split at hn <;> simp_all
    exact pinned_of_view hg G0 hdef hp hk
  · obtain ⟨⟨vs, s₁⟩, hlaid⟩ := Option.isSome_iff_exists.mp (layAllW_isSome (P := w.params) (ord := ord) GR.has args r.toRowW.args s (pre_splitW hpre).1)
    have keeps := layAllW_keeps _ _ _ hlaid
    have hal := layAllW_rest _ _ _ hlaid
    obtain ⟨as, hrd, hin, hold⟩ := reads_layAllW hord _ _ _ hlaid hlay s₁.heap (fun _ _ e => e)
    have LL : Laid r.toRowW.records w s s₁ args vs as := ⟨⟨ord, hord, hlaid⟩, hrd, hin, hold, keeps, hal.1.trans hgens, hal.2.2.1⟩
    have G₁ := GR.keeps hXk keeps
    obtain ⟨a, o, pm, cd, doc, dV, kV, h1, h2, h3, h4, h5⟩ := G₁.fn hdef
    have W := walk w s s₁ _ _ G₁ (hYk _ _ _ (hY w s y) keeps) a o pm cd doc dV kV h2 h3 h4 h5 (defOf_name hdef ▸ h1) LL.gens args vs as hpre hlay LL.reads LL.well (LL.low GR.low)
    refine ⟨vs, s₁, hlaid, c_step (wpAny_nsGet G₁.T.g ?_)⟩
    rw [h1]
    exact c_bind (c_mono W
      (fun v s' g => c_pure ⟨_, rfl, have z := g.laid (c := r.toRowW.claim) hsame hwi hi LL; ⟨z.1, z.2.1, z.2.2, fun qq => ⟨namesKept_of hT' hg _ keeps g.2.1.old, noTable hwr qq⟩⟩⟩)
      fun e s' g => have z := g.laid (c := r.toRowW.claim) hsame hwi hi LL; ⟨z.1, z.2.1, z.2.2, fun qq => ⟨namesKept_of hT' hg _ keeps g.2.1.old, noTable hwr qq⟩⟩)
end Mine
end
section
open PySem PySem.W PySem.Spec PySem.Calls PyProof.Rows
set_option maxRecDepth 100000
set_option maxHeartbeats 0
namespace Mine
/-- the places of the written heap -/
noncomputable def places : List Addr := [2, 3, 6, 11, 12, 32, 39, 40, 41, 42, 45, 52, 53, 54, 57, 64, 65, 66, 69, 71, 72, 74, 75, 76, 78, 79, 81, 82, 83, 85, 86, 88, 89, 93, 94, 98, 99, 100, 102, 103, 105, 106, 107, 110, 111, 112, 114, 115, 117, 118, 119, 121, 122, 124, 125, 126, 129, 130, 131, 133, 134, 136, 137, 138, 141, 142]
theorem places_ok (P : Params) : places = (hd.heap_39 P).map (·.1) := by kernel_rfl
/-- the run of the text's top, told for every world -/
theorem left : LeftO PySem.Challenge.rw_xc0006_01.row.prog hd.view_39 [Str.ofString "_twin_re_1", Str.ofString "_twin_re_2"] (fun s => xlAt hd.view_39 [] s && recOk PySem.Challenge.rw_xc0006_01.row.toRowW.records s)
    (kHook hd.heap_39 places places_ok).obs (kHook hd.heap_39 places places_ok).val 2362 := fun w => by kernel_rfl
theorem head {d : DefRec} {kwd : List (PySem.Str × PySem.Expr)} (hdef : defOf hd.view_39 PySem.Challenge.rw_xc0006_01.row.name = some (d, kwd))
    (hp : PySem.Challenge.rw_xc0006_01.row.prog.theDef PySem.Challenge.rw_xc0006_01.row.name = some (d.params, d.body, d.scope)) (hk : kwWritten? d.params.kwonlyargs d.params.kw_defaults = some kwd)
    (walk : WalkC hd.view_39 [Str.ofString "_twin_re_1", Str.ofString "_twin_re_2"] (XL hd.view_39 []) (InK hd.heap_39) PySem.Challenge.rw_xc0006_01.row.toRowW d kwd) : PySem.Challenge.rw_xc0006_01.Holds := by
  w_on
  o_law
  refine holds_C (q := hd.view_39) (loose := [Str.ofString "_twin_re_1", Str.ofString "_twin_re_2"]) (XP := XL hd.view_39 []) (YP := InK hd.heap_39) left (InK.of places_ok) InK.keeps
    (fun s e => xl_of s (Bool.and_eq_true_iff.mp e).1) XL.keeps hdef hp hk (fun s e => recFacts_of (Bool.and_eq_true_iff.mp e).2) (by rfl) (by first | assumption | decide +kernel) (by decide +kernel) ⟨rfl, rfl, rfl, rfl, rfl, by decide +kernel⟩ ?hw walk
  case hw => w_witness2
end Mine
end
section
open PySem PySem.W PySem.Calls PySem.NumText PyProof.Rows
set_option maxRecDepth 100000
namespace Mine
/-- the tree, one definition opened (wp_delta opens it in the first premise) -/
theorem c_conv {α : Type} {M : Model} {A : Around} {E : Value → Shared → Prop} {s : Shared} {Q : α → Shared → Prop} {t t' : Sem α}
    (d : wpAny M A t' (fun _ _ => True) (fun _ _ => True) s → wpAny M A t (fun _ _ => True) (fun _ _ => True) s) (e : t = t') (h : wpC M A t' Q E s) : wpC M A t Q E s := e ▸ h

theorem c_text_bad {prog : Program} {w : World} {A : Around} {E : Value → Shared → Prop} {s : Shared} {Q : Value → Shared → Prop} {x : PySem.Str} {u : Tok} {text : List Nat}
    (hs : (text.takeWhile (· != 0)).length ≤ 640) (hr : (int_private% "readNumeral") 0 10 (text.takeWhile (· != 0)) = int_private% "Numeral.invalid")
    (hh : A.handled = none) (hx : (reprText x).length ≤ sizeLine)
    (h : ∀ h' e tk', Heap.NewExc s.heap h' e "ValueError" → E (.ref e) { s with heap := h', toks := tk' }) :
    wpC (model prog w) A ((int_private% "intFromText") (.str x u) text 10) Q E s := by
  apply c_conv
  case d => intro h; wp_delta; exact h
  case e => rfl
  rw [if_pos hs]
  refine c_step (wpAny_pure ?_)
  dsimp only
  rw [hr]
  dsimp only
  refine c_step ?_
  apply wpAny_pure
  rw [if_neg (by intro e; cases e)]
  refine c_step (wpAny_rule ?_)
  refine c_step ?_
  apply wpAny_pure
  dsimp only
  refine c_step (wpAny_pyRepr_str ?_ hx)
  refine c_step (wpAny_mkStr ?_ ?_)
  · refine c_step (wpAny_newExc_plain plainExc_ValueError fun h' e he => ?_)
    refine c_bind (c_mark ?_)
    exact c_any (wpAny_raiseNew_none hh (h _ _ _ he.newExc))
  · show ((PySem.Str.ofString (toString "invalid literal for int() with base " ++ toString 10 ++ toString ": ")).cps ++ (reprText x).cps.extract 0 200).size ≤ sizeLine
    rw [Array.size_append, Array.size_extract, sizeLine_eq]
    have : (PySem.Str.ofString (toString "invalid literal for int() with base " ++ toString 10 ++ toString ": ")).cps.size ≤ 100 := by decide +kernel
    omega

theorem c_ite {α : Type} {M : Model} {A : Around} {E : Value → Shared → Prop} {s : Shared} {Q : α → Shared → Prop} {c : Prop} [Decidable c] {a b : Sem α} (hc : ¬ c) (h : wpC M A b Q E s) : wpC M A (if c then a else b) Q E s := by
  rw [if_neg hc]; exact h
theorem c_itep {α : Type} {M : Model} {A : Around} {E : Value → Shared → Prop} {s : Shared} {Q : α → Shared → Prop} {c : Prop} [Decidable c] {a b : Sem α} (hc : c) (h : wpC M A a Q E s) : wpC M A (if c then a else b) Q E s := by
  rw [if_pos hc]; exact h

theorem read_bad {x : PySem.Str} (h : digits? 10 (core (numSeenOf x)) = none) : (int_private% "readNumeral") 0 10 (numSeenOf x) = int_private% "Numeral.invalid" := by
  rw [readNumeral_ten, h]; rfl

theorem c_text_obj {prog : Program} {w : World} {A : Around} {E : Value → Shared → Prop} {s : Shared} {Q : Value → Shared → Prop} {x : PySem.Str} {u : Tok}
    (hl : x.length ≤ 640) (hd : digits? 10 (core (numSeenOf x)) = none) (hh : A.handled = none) (hx : (reprText x).length ≤ sizeLine)
    (f3 : typeLookup (.type "str") "__int__" = pure none) (f4 : typeLookup (.type "str") "__index__" = pure none) (f5 : typeLookup (.type "str") "__trunc__" = pure none) (f6 : typeOf (.str x u) = pure (.type "str"))
    (h : ∀ h' e tk', Heap.NewExc s.heap h' e "ValueError" → E (.ref e) { s with heap := h', toks := tk' }) :
    wpC (model prog w) A ((int_private% "intFromObject") (.str x u)) Q E s := by
  apply c_conv
  case d => intro h; wp_delta; exact h
  case e => rfl
  have hs : (numSeenOf x).length ≤ 640 := Nat.le_trans (seen_length x) hl
  repeat (any_goals (first
    | ((show wpC _ _ ((int_private% "intFromText") _ _ _) _ _ _); exact c_text_bad hs (read_bad hd) hh hx h)
    | ((show wpC _ _ ((int_private% "intFromText") _ _ _ >>= _) _ _ _); refine c_bind ?_; exact c_text_bad hs (read_bad hd) hh hx h)
    | wp_step
    | with_reducible refine c_ite (by first | exact Bool.false_ne_true | decide) ?_
    | with_reducible refine c_itep (by first | rfl | decide) ?_
    | with_reducible refine c_step ?_
    | (with_reducible show wpC _ _ _ _ _ _; dsimp only; with_reducible refine c_step ?_)))

theorem c_new_bad {prog : Program} {w : World} {A : Around} {E : Value → Shared → Prop} {s : Shared} {Q : Fin → Shared → Prop} {x : PySem.Str} {u : Tok}
    (hl : x.length ≤ 640) (hd : digits? 10 (core (numSeenOf x)) = none) (hh : A.handled = none) (hx : (reprText x).length ≤ sizeLine)
    (h : ∀ h' e tk', Heap.NewExc s.heap h' e "ValueError" → E (.ref e) { s with heap := h', toks := tk' }) :
    wpC (model prog w) A (Builtin.«int.__new__» ⟨[.type "int", .str x u], []⟩) Q E s := by
  have f1 := F.conv_sub_int
  have f2 := F.madeHere_int
  have f3 := KIN.str_int
  have f4 := KIN.str_idx
  have f5 := KIN.str_trunc
  have f6 : typeOf (.str x u) = pure (.type "str") := rfl
  apply c_conv
  case d => intro h; wp_delta; exact h
  case e => rfl
  repeat (any_goals (first
    | ((show wpC _ _ ((int_private% "intFromObject") _ >>= _) _ _ _); refine c_bind ?_; refine c_text_obj hl hd hh hx f3 f4 f5 f6 h)
    | wp_step
    | with_reducible refine c_ite (by first | exact Bool.false_ne_true | decide) ?_
    | with_reducible refine c_itep (by first | rfl | decide) ?_
    | with_reducible refine c_step ?_
    | (with_reducible show wpC _ _ _ _ _ _; dsimp only; with_reducible refine c_step ?_)))
end Mine
end
section
open PySem PySem.W PySem.Calls PySem.NumText PyProof.Rows
set_option maxRecDepth 100000
namespace Mine
section
variable {prog : Program} {w : World} {A : Around} {E : Value → Shared → Prop} {s : Shared} {R : Result → Shared → Prop}

theorem code_builtin {id : String} {args : Args} {b : Builtin} (hb : entryFor table id = some b)
    (h : wpC (model prog w) (A.under (.builtin id args)) (b args)
      (fun fin s' => match fin with | .done f => R (.ok f) s' | .again c' => c'.quiet = true ∧ codeC (model prog w) A c' R s') (fun e s' => R (.error e) s') s) :
    codeC (model prog w) A (.builtin id args) R s := by
  refine code_tree ?_
  show wpC _ _ (match entryFor table id with | some b => b args | none => unsupported ((withoutEnding? id "#data").getD id)) _ _ s
  rw [hb]; exact h

theorem code_call_builtin {id : String} {args : Args} {b : Builtin} (hq : plainId id = true) (hb : entryFor table id = some b) (hc : checkBuiltinCall id args = pure ())
    (h : wpC (model prog w) A.in1 (b args)
      (fun fin s' => match fin with | .done f => R (.ok f) s' | .again c' => c'.quiet = true ∧ codeC (model prog w) A c' R s') (fun e s' => R (.error e) s') s) :
    codeC (model prog w) A (.call (.builtin id) args) R s := by
  refine code_tree ?_
  show wpC _ A.in1 (checkBuiltinCall id args >>= fun _ => again (.builtin id args)) _ _ s
  rw [hc]
  exact c_step (wpAny_pure (c_pure ⟨plainId_quiet hq args, code_builtin hb (by rw [Around.under_plainId hq args]; exact h)⟩))

/-- int(text), of a text that is no number: ValueError -/
theorem c_int_bad {Q : Value → Shared → Prop} {x : PySem.Str} {u : Tok}
    (hl : x.length ≤ 640) (hd : digits? 10 (core (numSeenOf x)) = none) (hh : A.handled = none) (hx : (reprText x).length ≤ sizeLine)
    (h : ∀ h' e tk', Heap.NewExc s.heap h' e "ValueError" → E (.ref e) { s with heap := h', toks := tk' }) :
    wpC (model prog w) A (call (.type "int") [.str x u]) Q E s := by
  have ft := F.called_int
  obtain ⟨c, tl, hmro⟩ := ft.mro
  have hmade := ft.made
  have hsub := ft.sub
  refine c_call (code_tree ?_)
  show wpC _ _ (callAny (.type "int") _) _ _ _
  refine c_pure ⟨Code.quiet_builtin _ (by decide +kernel), code_builtin F.entry_type_call ?_⟩
  rw [Around.under_plain (weight_type_call_type "int" _ []) (units_type_call_type "int" _ [])]
  have h1 := ft.notType
  have h2 := ft.canCreate
  have hct := F.typeCall_int_1 (.str x u)
  apply c_conv
  case d => intro h; wp_delta; exact h
  case e => rfl
  repeat (any_goals (first
    | wp_step
    | ((show wpC _ _ (run _ _ >>= _) _ _ _); refine c_bind (c_run ?_))
    | ((show wpC _ _ (runValue _ >>= _) _ _ _); refine c_bind (c_runValue ?_))
    | ((show wpC _ _ (call _ _ _ >>= _) _ _ _); refine c_bind (c_call ?_))
    | with_reducible refine c_ite (by first | exact Bool.false_ne_true | simp [*]) ?_
    | with_reducible refine c_itep (by first | rfl | simp [*]) ?_
    | with_reducible refine c_step ?_
    | (with_reducible show wpC _ _ _ _ _ _; dsimp only; with_reducible refine c_step ?_)))
  exact code_call_builtin ft.plain F.entry_int_new (F.newCall_int_1 _) (c_new_bad hl hd hh hx h)

theorem code_func {body : List Stmt} {env : Env}
    (h : wpC (model prog w) (A.deeper env) (execs body env) (fun f s' => R (.ok (.ret (match f with | .ret v => v | _ => .none))) s')
      (fun e s' => wpAny (model prog w) (A.deeper env) (leaving env e) (fun _ s'' => R (.error e) s'') (fun e' s'' => R (.error e') s'') s') s) :
    codeC (model prog w) A (.func body env) R s := by
  refine code_tree ?_
  show wpC _ (A.deeper env) (point >>= fun _ => (execs body env).onRaise (leaving env) >>= fun f => match f with | .ret v => ret v | _ => ret .none) _ _ s
  refine c_step (wpAny_point (c_bind (c_onRaise (c_mono h (fun f s' h' => ?_) fun _ _ h' => c_any h'))))
  cases f <;> exact c_pure h'

/-- a def is entered, under the caller -/
theorem code_call_fn {a : Addr} {args : Args} {o : Obj} {fd : FuncData} {body : List Stmt} (hroom : A.depth < recursionLimit)
    (ho : s.heap.get? a = some o)
    (hd' : o.data = .func fd) (hco : fd.scope.isCoroutine = false) (hgen : fd.scope.isGenerator = false) (hbody : fd.body = .stmts body) (hcd : s.heap.CodeRec fd.code fd.qualname)
    (h : wpAny (model prog w) A.in1 (bindArgs fd args) (fun binds s₁ =>
      wpAny (model prog w) A.in1 (newFunctionEnv fd.scope fd.globals fd.closure binds (fd.qualname ++ ".<locals>.") (some a) fd.code none fd.builtins)
        (fun env s₂ => s₂.heap.NoLimit ∧ codeC (model prog w) A (.func body env) R s₂) (fun e s' => R (.error e) s') s₁) (fun e s' => R (.error e) s') s) :
    codeC (model prog w) A (.call (.ref a) args) R s := by
  refine code_tree ?_
  show wpC _ A.in1 (callAny (.ref a) args) _ _ s
  obtain ⟨c, oc, vs, tq, hc, hoc, hdc, hq⟩ := hcd
  simp only [callAny]
  refine c_step (wpAny_load ho ?_)
  simp only [hd', callFunction, hco, hgen, hbody, hc]
  rw [hc] at h
  refine c_step (m := field (.ref c) 1) (wpAny_field hoc hdc hq ?_)
  refine c_step (wpAny_pure ?_)
  refine c_step (wpAny_mono h (fun binds s₁ h₁ => ?_) fun _ _ h' => h')
  refine c_step (wpAny_mono h₁ (fun env s₂ h₂ => ?_) fun _ _ h' => h')
  exact c_step (wpAny_enterFrame h₂.1 hroom (c_pure ⟨rfl, h₂.2⟩))
end
end Mine
end
section
open PySem PySem.W PySem.Spec PySem.Calls PyProof.Rows
set_option maxRecDepth 100000
namespace Mine
section
variable {prog : Program} {w : World} {A₀ A : Around} {s : Shared} {base h₀ : Heap} {outer : List Env} {L : Addr} {m : PySem.Str → Option Value} {env : Env} {news : List (Addr × Obj)} {K : Frag}
  {p : Program} {loose : List PySem.Str} {mean : ExcName → Option Value} {mg mb : PySem.Str → Option Value}
  {R : Result → Shared → Prop} {name qual : PySem.Str} {params : Arguments} {body : List Stmt} {scope : Scope} {dV kV doc pm cdv ct oc : Value} {an od : Option Addr} {osl : Array (Option Value)} {f : Addr} {args : Args} {binds : List (PySem.Str × Value)}

/-- a def of the text is entered under the caller (no cells) -/
theorem code_defP (B : Below A₀ base outer h₀) (F : Fr h₀ L s.heap m) (X₀ : K.In h₀) (N : News h₀ L s.heap news) (T : Top p loose mean mg mb h₀) (hA : A.frames = some (env :: outer)) (hf : env.frame = some L) (hke : env.scope.kind = .function)
    (ho : K.lookup f = some ⟨oc, od, .func (fnOf name qual params body scope dV kV doc pm an cdv ct), osl⟩) (hcd : codeIn K cdv qual = true) (hroom : A.depth < recursionLimit)
    (hbind : BindsTo s (fnOf name qual params body scope dV kV doc pm an cdv ct) args binds) (hloc : ∀ y ∈ binds, scope.names.lookup y.1 = some .local)
    (h : ∀ g L' h₁, Fr h₀ L g m → Fr g L' h₁ (fun y => binds.reverse.lookup y) → News g L' h₁ news → Below A base (env :: outer) g → K.In g → Top p loose mean mg mb g →
      wpC (model prog w) (A.deeper (envOf qual scope L' f cdv)) (execs body (envOf qual scope L' f cdv))
        (fun fl s' => LeaveK h₀ L m g R (match fl with | .ret v => v | _ => .none) s')
        (fun e s' => wpAny (model prog w) (A.deeper (envOf qual scope L' f cdv)) (leaving (envOf qual scope L' f cdv) e) (fun _ s'' => R (.error e) s'') (fun e' s'' => R (.error e') s'') s')
        { s with heap := h₁, toks := s.toks + binds.length })
    (hco : scope.isCoroutine = false) (hgen : scope.isGenerator = false) (hk : scope.kind = .function)
    (hcell : ∀ x ∈ scope.names, x.2 ≠ .cell) : codeC (model prog w) A (.call (.ref f) args) R s := by
  obtain ⟨FG, BG, st, lv⟩ := groundX (R := R) B F N hA hf hke
  have XS := X₀.keeps F.keep
  refine code_call_fn (fd := fnOf name qual params body scope dV kV doc pm an cdv ct) hroom (XS _ _ ho) rfl hco hgen rfl (codeRec_of XS hcd) (hbind _ _ _ _ ?_)
  refine wpAny_newFunctionEnv hcell hloc (fun h₁ hns hsb => ?_) hk
  have hk₁ : ∀ b o, s.heap.get? b = some o → h₁.get? b = some o := fun b o e => hsb.extBut b o (Nat.ne_of_lt (Heap.lt_size e)) (Heap.get?_push_of_some _ e)
  refine ⟨(T.nolimit.keeps F.keep).fresh _ hsb, code_func ?_⟩
  exact c_mono (h _ s.heap.objs.size h₁ FG ⟨hns, fun b o e => hk₁ b o (of_hideAll _ e), Nat.le_of_eq (hideAll_size _ _)⟩
    (fun p hp => ⟨hk₁ _ _ (N p hp).1, Nat.ne_of_lt (Heap.lt_size (N p hp).1), hideAll_none _ (List.mem_map_of_mem hp)⟩) BG (X₀.keeps st) (T.keeps st)) (fun fl s' hl => lv _ _ hl) fun _ _ y => y
end
end Mine
end
section
open PySem PySem.W PySem.Spec PySem.Calls PyProof.Rows
set_option maxRecDepth 100000
namespace Mine
open Sem (wp)
section
variable {α : Type} {M : Model} {A : Around} {E : Value → Shared → Prop} {s : Shared} {env : Env}

theorem c_Assign {x : PySem.Str} {pos' pos : Pos} {value : PySem.Expr} {Q : Flow → Shared → Prop}
    (h : wpC M A (eval value env) (fun v s₁ => wpAny M A (storeName env x v) (fun _ => Q .next) E s₁) E s)
    (hs : swapsWith value (some (.Name x pos')) pos.line env = pure false := by rfl) :
    wpC M A (exec (.Assign [.Name x pos'] value pos) env) Q E s := fun Γ p hΓ hc => by
  simp only [exec_Assign_Name env x pos' value pos hs, Sem.wp_bind', Sem.wp_cmd_standAt, Sem.wp_bindName, Sem.wp_pure']
  exact Sem.wp_mono M Γ _ (fun v _ s₁ h₁ => h₁ Γ _ hΓ) (fun _ _ _ h' => h') _ _ (h Γ _ hΓ hc)
theorem c_Return {e : PySem.Expr} {pos : Pos} {Q : Flow → Shared → Prop} (h : wpC M A (eval e env) (fun v => Q (.ret v)) E s) :
    wpC M A (exec (.Return (some e) pos) env) Q E s := fun Γ p hΓ hc => by
  simp only [exec_Return_some, Sem.wp_bind', Sem.wp_cmd_standAt, Sem.wp_pure']; exact h Γ _ hΓ hc
theorem c_Expr {prog : Program} {w : World} {e : PySem.Expr} {pos : Pos} {Q : Flow → Shared → Prop} (h : wpC (model prog w) A (eval e env) (fun _ => Q .next) E s)
    (hi : interactive env = false := by rfl) (hs : swapsWith e none pos.line env = pure false := by rfl) :
    wpC (model prog w) A (exec (.Expr e pos) env) Q E s := by
  rw [exec_Expr env e pos hi hs]
  exact c_step (wpAny_standAt (c_bind (c_mono h (fun v s' h' => c_any (wpAny_dropValue h')) fun _ _ x => x)))

theorem c_keep {vs : List Value} {m : Sem α} {Q : α → Shared → Prop} (h : wpC M A m Q E s) : wpC M A (m.keep vs) Q E s :=
  fun Γ p hΓ hc => by rw [Sem.wp_keep]; exact h Γ p hΓ hc
theorem c_tail {t : Sem Value} {Q : Value → Shared → Prop} (ht : wpC M A t Q E s) : wpC M A (t >>= fun r => holding [r] point >>= fun _ => pure r) Q E s :=
  c_bind (c_mono ht (fun r s₂ hr => c_step (wpAny_holding (wpAny_point (c_pure hr)))) fun _ _ x => x)
theorem c_callWith_type {pos : Pos} {T : String} {first : List Value} {args : List (Bool × Sem Value)} {Q : Value → Shared → Prop}
    (hplain : args.any (·.1) = false)
    (h : wpAny M A (evalArgs (.type T) true args []) (fun a s₁ => wpC M A (call (.type T) (first ++ a.pos) a.kw) Q E s₁) E s) :
    wpC M A (callWith pos (.type T) first args []) Q E s := by
  unfold callWith
  refine c_step (wpAny_holding (wpAny_mono h (fun a s₁ h₁ => c_step (wpAny_standAt ?_)) fun _ _ x => x))
  simp only [hplain, List.any_nil, Bool.or_false]
  exact c_step (wpAny_pure (c_tail h₁))
theorem c_callWith_def {pos : Pos} {a : Addr} {o : Obj} {fd : FuncData} {first : List Value} {args : List (Bool × Sem Value)} {Q : Value → Shared → Prop}
    (hplain : args.any (·.1) = false)
    (h : wpAny M A (evalArgs (.ref a) true args []) (fun x s₁ => (s₁.heap.get? a = some o ∧ o.data = .func fd) ∧ wpC M A (call (.ref a) (first ++ x.pos) x.kw) Q E s₁) E s) :
    wpC M A (callWith pos (.ref a) first args []) Q E s := by
  unfold callWith
  refine c_step (wpAny_holding (wpAny_mono h (fun x s₁ h₁ => c_step (wpAny_standAt ?_)) fun _ _ x => x))
  simp only [hplain, List.any_nil, Bool.or_false]
  refine c_step (m := keeperOf (.ref a)) ?_
  unfold keeperOf
  refine wpAny_bind (wpAny_load h₁.1.1 ?_)
  rw [h₁.1.2]
  refine wpAny_pure ?_
  dsimp only
  split
  · exact c_tail h₁.2
  · exact c_tail (by unfold callMarked; exact c_keep h₁.2)
theorem c_Call_Name {id : PySem.Str} {p pos : Pos} {args : List PySem.Expr} {Q : Value → Shared → Prop}
    (h : wpAny M A (eval (.Name id p) env) (fun f s₁ => wpC M A (callWith pos f [] (backTo pos (starEach args env)) []) Q E s₁) E s) :
    wpC M A (eval (.Call (.Name id p) args [] pos) env) Q E s := by
  rw [arm_eval_Call_Name']
  exact c_step h
theorem c_callT {pos : Pos} {T : String} {first : List Value} {e : PySem.Expr} {rest : List PySem.Expr} {Q : Value → Shared → Prop} 
    (h : wpAny M A (spliced (backTo pos (starEach (e :: rest) env))) (fun vs s₁ => wpC M A (call (.type T) (first ++ vs)) Q E s₁) E s)
    (he : starEach (e :: rest) env = (false, eval e env) :: starEach rest env := by rfl) (hplain : (backTo pos (starEach rest env)).any (·.1) = false := by rfl) :
    wpC M A (callWith pos (.type T) first (backTo pos (starEach (e :: rest) env)) []) Q E s := by
  rw [he] at h ⊢
  exact c_callWith_type (by show (false || (backTo pos (starEach rest env)).any (·.1)) = false; rw [hplain]; rfl) (evalArgs_plain h)
theorem c_callWith_in {K : Frag} {f : Value} {pos : Pos} {first : List Value} {args : List (Bool × Sem Value)} {Q : Value → Shared → Prop} (hplain : args.any (·.1) = false) (hk : keepIn K f = true)
    (h : wpAny M A (evalArgs f true args []) (fun x s₁ => K.In s₁.heap ∧ wpC M A (call f (first ++ x.pos) x.kw) Q E s₁) E s) : wpC M A (callWith pos f first args []) Q E s := by
  unfold callWith
  refine c_step (wpAny_holding (wpAny_mono h (fun x s₁ h₁ => c_step (wpAny_standAt ?_)) fun _ _ x => x))
  obtain ⟨k, hk', L⟩ := keeps_K (M := M) hk _ h₁.1
  simp only [hplain, List.any_nil, Bool.or_false]
  refine c_step (L.here ?_)
  have marked (mk : Value) : wpC M A (callMarked mk f (first ++ x.pos) x.kw) Q E s₁ := by unfold callMarked; exact c_keep h₁.2
  rcases hk' with rfl | rfl | rfl <;> dsimp only <;> first | exact c_tail h₁.2 | (split <;> first | exact c_tail h₁.2 | exact c_tail (marked _))
theorem c_callK {K : Frag} {f : Value} {pos : Pos} {first : List Value} {e : PySem.Expr} {rest : List PySem.Expr} {Q : Value → Shared → Prop} (hk : keepIn K f = true)
    (h : wpAny M A (spliced (backTo pos (starEach (e :: rest) env))) (fun vs s₁ => K.In s₁.heap ∧ wpC M A (call f (first ++ vs)) Q E s₁) E s)
    (he : starEach (e :: rest) env = (false, eval e env) :: starEach rest env := by rfl) (hplain : (backTo pos (starEach rest env)).any (·.1) = false := by rfl) :
    wpC M A (callWith pos f first (backTo pos (starEach (e :: rest) env)) []) Q E s := by
  rw [he] at h ⊢
  exact c_callWith_in (by show (false || (backTo pos (starEach rest env)).any (·.1)) = false; rw [hplain]; rfl) hk (evalArgs_plain h)
theorem c_Try {prog : Program} {w : World} {body orelse : List Stmt} {h₀ : ExceptHandler} {hs : List ExceptHandler} {pos : Pos} {Q : Flow → Shared → Prop}
    (h : wpC (model prog w) A (execs body env) (fun f s₁ => match f with | .next => wpAny (model prog w) A (execs orelse env) Q E s₁ | f => Q f s₁)
      (fun e s₁ => wpAny (model prog w) A (noteFrame e env) (fun _ s₂ => wpAny (model prog w) A (setFlight e none) (fun _ s₃ => wpAny (model prog w) A (handleBy e env (h₀ :: hs)) Q E s₃) E s₂) E s₁) s) :
    wpC (model prog w) A (exec (.Try body (h₀ :: hs) orelse [] pos) env) Q E s := by
  rw [arm_exec_Try]
  refine c_step (wpAny_standAt ?_)
  unfold tryStmt
  simp only [List.isEmpty_nil, if_true, List.isEmpty_cons, Bool.false_and, Bool.false_eq_true, if_false]
  refine c_bind (c_attempt (c_mono h (fun f s₁ h₁ => ?_) fun e s₁ h₁ => ?_))
  · cases f <;> first | exact c_any h₁ | exact c_pure h₁
  · exact c_any (wpAny_bind (wpAny_mono h₁ (fun _ _ h₂ => wpAny_bind h₂) fun _ _ x => x))
end
end Mine
end
section
open PySem PySem.W PySem.Spec PySem.Calls PyProof.Rows
set_option maxRecDepth 100000
namespace Mine
section
variable {prog : Program} {w : World} {A₀ A : Around} {s : Shared} {base h₀ : Heap} {L : Addr} {m : PySem.Str → Option Value} {env : Env} {news : List (Addr × Obj)} {K : Frag}
  {p : Program} {loose : List PySem.Str} {mean : ExcName → Option Value} {mg mb : PySem.Str → Option Value}
  {R : Result → Shared → Prop} {name qual : PySem.Str} {params : Arguments} {body : List Stmt} {scope : Scope} {dV kV doc pm cdv ct oc : Value} {an od : Option Addr} {osl : Array (Option Value)} {f : Addr} {args : Args} {binds : List (PySem.Str × Value)}

/-- a def with a try is entered from the law's own frame, under the caller -/
theorem code_defPS (B : Below A₀ base [] h₀) (F : Fr h₀ L s.heap m) (X₀ : K.In h₀) (N : News h₀ L s.heap news) (T : Top p loose mean mg mb h₀) (hA : A.frames = some [env]) (hf : env.frame = some L) (hke : env.scope.kind = .function)
    (ho : K.lookup f = some ⟨oc, od, .func (fnOf name qual params body scope dV kV doc pm an cdv ct), osl⟩) (hcd : codeIn K cdv qual = true) (hroom : A.depth < recursionLimit)
    (hbind : BindsTo s (fnOf name qual params body scope dV kV doc pm an cdv ct) args binds) (hloc : ∀ y ∈ binds, scope.names.lookup y.1 = some .local)
    (h : ∀ g L' h₁, Fr h₀ L g m → Fr g L' h₁ (fun y => binds.reverse.lookup y) → News g L' h₁ news → Below A base [env] g → K.In g → Top p loose mean mg mb g → KtsDicts ([env].filterMap (·.frame)) g →
      wpC (model prog w) (A.deeper (envOf qual scope L' f cdv)) (execs body (envOf qual scope L' f cdv))
        (fun fl s' => LeaveS0 ([env].filterMap (·.frame)) h₀ L m g R (match fl with | .ret v => v | _ => .none) s')
        (fun e s' => wpAny (model prog w) (A.deeper (envOf qual scope L' f cdv)) (leaving (envOf qual scope L' f cdv) e) (fun _ s'' => R (.error e) s'') (fun e' s'' => R (.error e') s'') s')
        { s with heap := h₁, toks := s.toks + binds.length })
    (hco : scope.isCoroutine = false) (hgen : scope.isGenerator = false) (hk : scope.kind = .function)
    (hcell : ∀ x ∈ scope.names, x.2 ≠ .cell) : codeC (model prog w) A (.call (.ref f) args) R s := by
  obtain ⟨FG, BG, st, _⟩ := groundX (R := R) B F N hA hf hke
  have XS := X₀.keeps F.keep
  refine code_call_fn (fd := fnOf name qual params body scope dV kV doc pm an cdv ct) hroom (XS _ _ ho) rfl hco hgen rfl (codeRec_of XS hcd) (hbind _ _ _ _ ?_)
  refine wpAny_newFunctionEnv hcell hloc (fun h₁ hns hsb => ?_) hk
  have hk₁ : ∀ b o, s.heap.get? b = some o → h₁.get? b = some o := fun b o e => hsb.extBut b o (Nat.ne_of_lt (Heap.lt_size e)) (Heap.get?_push_of_some _ e)
  refine ⟨(T.nolimit.keeps F.keep).fresh _ hsb, code_func ?_⟩
  obtain ⟨oL, es, ep, hLg, hLd, hLk, hLf⟩ := FG.ns
  have hfr : [env].filterMap (·.frame) = [L] := by simp [hf]
  refine c_mono (h _ s.heap.objs.size h₁ FG ⟨hns, fun b o e => hk₁ b o (of_hideAll _ e), Nat.le_of_eq (hideAll_size _ _)⟩
    (fun p hp => ⟨hk₁ _ _ (N p hp).1, Nat.ne_of_lt (Heap.lt_size (N p hp).1), hideAll_none _ (List.mem_map_of_mem hp)⟩) BG (X₀.keeps st) (T.keeps st) (fun b hb => by
      rw [hfr] at hb
      rcases List.mem_singleton.mp hb with rfl
      exact ⟨oL, es, ep, hLg, hLd⟩)) (fun fl s' hl => ?_) fun _ _ y => y
  obtain ⟨g', L', m', news', T', F', N', k⟩ := hl
  have nL₀ : h₀.get? L = none := kts_self F
  obtain ⟨sl, hs⟩ := T'.up hLg
  refine k ⟨⟨_, es, ep, F'.keep _ _ hs, hLd, hLk, hLf⟩, fun b o e => F'.keep b o (T'.other b o (st b o e) (fun q => ?_)), F.above⟩ fun p hp => ⟨(N' p hp).1, fun q => ?_, ?_⟩
  · rw [hfr] at q
    rw [List.mem_singleton.mp q, nL₀] at e
    cases e
  · have := (N' p hp).2.2; rw [q, hs] at this; cases this
  · cases q : h₀.get? p.1 with
    | none => rfl
    | some o =>
      obtain ⟨sl', hs'⟩ := T'.up (st _ _ q)
      have := (N' p hp).2.2
      rw [hs'] at this
      cases this
end
end Mine
end
section
open PySem PySem.W PySem.Spec PySem.Calls PyProof.Rows
set_option maxRecDepth 100000
namespace Mine
section
variable {prog : Program} {w : World} {A : Around} {s : Shared}
  {R : Result → Shared → Prop} {name qual : PySem.Str} {params : Arguments} {body : List Stmt} {scope : Scope} {dV kV doc pm cdv ct : Value} {an : Option Addr} {fo : Obj} {f : Addr} {args : Args} {binds : List (PySem.Str × Value)}
/-- a def with cells is entered from the claim's own caller -/
theorem code_lawP (hlim : s.heap.NoLimit) (ho : s.heap.get? f = some fo) (hd : fo.data = .func (fnX name qual params body scope [] dV kV doc pm an cdv ct)) (hcd : s.heap.CodeRec cdv qual) (hroom : A.depth < recursionLimit)
    (hbind : BindsTo s (fnX name qual params body scope [] dV kV doc pm an cdv ct) args binds)
    (hkind : ∀ n, ∀ x ∈ binds, scope.names.lookup x.1 = some .local ∨ (scope.names.lookup x.1 = some .cell ∧ ((cellsFrom n scope.names []).lookup x.1).isSome = true))
    (hnd : ((cellsFrom 0 scope.names []).map (·.1)).Nodup)
    (h : ∀ h₁ tk cells, Fr s.heap s.heap.objs.size h₁ (bindL (envOfC qual scope s.heap.objs.size f cdv).kindOf binds fun _ => none) → News s.heap s.heap.objs.size h₁ cells →
      CellsAre (bindC (envOfC qual scope s.heap.objs.size f cdv).kindOf binds fun _ => none) (cellsFrom (s.heap.objs.size + 1) scope.names []) cells →
      wpC (model prog w) (A.deeper (envOfC qual scope s.heap.objs.size f cdv)) (execs body (envOfC qual scope s.heap.objs.size f cdv))
        (fun fl s' => R (.ok (.ret (match fl with | .ret v => v | _ => .none))) s')
        (fun e s' => wpAny (model prog w) (A.deeper (envOfC qual scope s.heap.objs.size f cdv)) (leaving (envOfC qual scope s.heap.objs.size f cdv) e) (fun _ s'' => R (.error e) s'') (fun e' s'' => R (.error e') s'') s')
        { s with heap := h₁, toks := tk })
    (hco : scope.isCoroutine = false) (hgen : scope.isGenerator = false) (hk : scope.kind = .function) : codeC (model prog w) A (.call (.ref f) args) R s := by
  refine code_call_fn hroom ho hd hco hgen rfl hcd (hbind _ _ _ _ ?_)
  refine wpAny_newFunctionEnv_cells hk (hkind _) fun env' he s' x => ?_
  subst he
  refine ⟨hlim.keeps x.toInCall.keep, code_func ?_⟩
  obtain ⟨h₁, tk, rfl, _⟩ := x.done
  have hk₁ := x.toInCall.keep
  obtain ⟨cells, NC, Y⟩ := Cl.news (h₀ := s.heap) (Nat.le_refl _) fun n c hm => ⟨x.cell n c (lookup_of_mem_nodup (cellsFrom_names scope.names 0 (s.heap.objs.size + 1) [] [] rfl ▸ hnd) hm), x.above n c hm⟩
  exact h h₁ tk cells ⟨x.toInCall.ns, fun b o e => hk₁ b o e, Nat.le_refl _⟩ NC Y
theorem code_lawK {K : Frag} {oc : Value} {od : Option Addr} {osl : Array (Option Value)} (X : K.In s.heap) (hlim : s.heap.NoLimit) (ho : K.lookup f = some ⟨oc, od, .func (fnOf name qual params body scope dV kV doc pm an cdv ct), osl⟩) (hcd : codeIn K cdv qual = true) (hroom : A.depth < recursionLimit)
    (hbind : BindsTo s (fnOf name qual params body scope dV kV doc pm an cdv ct) args binds)
    (hkind : (binds.all fun y => scope.names.lookup y.1 == some .local || scope.names.lookup y.1 == some .cell) = true)
    (hnd : ((cellsFrom 0 scope.names []).map (·.1)).Nodup)
    (h : ∀ h₁ tk cells, Fr s.heap s.heap.objs.size h₁ (bindL (envOfC qual scope s.heap.objs.size f cdv).kindOf binds fun _ => none) → News s.heap s.heap.objs.size h₁ cells →
      CellsAre (bindC (envOfC qual scope s.heap.objs.size f cdv).kindOf binds fun _ => none) (cellsFrom (s.heap.objs.size + 1) scope.names []) cells →
      wpC (model prog w) (A.deeper (envOfC qual scope s.heap.objs.size f cdv)) (execs body (envOfC qual scope s.heap.objs.size f cdv))
        (fun fl s' => R (.ok (.ret (match fl with | .ret v => v | _ => .none))) s')
        (fun e s' => wpAny (model prog w) (A.deeper (envOfC qual scope s.heap.objs.size f cdv)) (leaving (envOfC qual scope s.heap.objs.size f cdv) e) (fun _ s'' => R (.error e) s'') (fun e' s'' => R (.error e') s'') s')
        { s with heap := h₁, toks := tk })
    (hco : scope.isCoroutine = false) (hgen : scope.isGenerator = false) (hk : scope.kind = .function) : codeC (model prog w) A (.call (.ref f) args) R s :=
  code_lawP hlim (X _ _ ho) rfl (codeRec_of X hcd) hroom hbind (kindsX hkind) hnd h hco hgen hk
end
end Mine
end
section
open PySem PySem.W PySem.Spec PySem.Calls PyProof.Rows
set_option maxRecDepth 100000
namespace Mine
/-! own rules: comprehensions by a relation, for loops over a made list or a range, a slice with a step -/
noncomputable def REl (news : Ledger) (R : Value → Prop) (y : Value) (news' : Ledger) : Prop := news' = news ∧ R y
theorem rel_el {news news' : Ledger} {R : Value → Prop} {y : Value} (h : news' = news) (hR : R y) : REl news R y news' := ⟨h, hR⟩
section
variable {prog : Program} {w : World} {A : Around} {h₀ : Heap} {L : Addr} {m : Names} {env : Env} {elt : Expr} {x : PySem.Str} {scope : Scope} {cl : List (PySem.Str × Addr)} {s : Shared} {S : Ledger → Prop} {P : Nat → Value → Prop} {Fin : List Value → Ledger → Prop} {news : Ledger}
theorem rest_rel {n : Nat} (R : Nat → Value → Prop)
    (turn : ∀ i v I oI C oC D m₂ ys h tk (E' : Value → Shared → Prop), i < n → P i v → LCg.NsObj oC m₂ → m₂ x = some v → Fr h₀ L h m → News h₀ L h ((I, oI) :: (C, oC) :: (D, LCg.lst ys) :: news) → LCg.Off3 I C D news → ((@Ne Nat I C) ∧ (@Ne Nat I D) ∧ (@Ne Nat C D)) →
      wpAny (model prog w) A (eval elt (compEnvC scope cl C env)) (LCg.CompEnd h₀ L m { s with heap := h, toks := tk } I oI C oC D (LCg.lst ys) S (fun y news' => REl news (R i) y news')) E' { s with heap := h, toks := tk })
    (fin : ∀ ys, ys.length = n → (∀ (i : Nat) y, ys[i]? = some y → R i y) → Fin ys news) : LCg.CompRest prog w A h₀ L m env elt x scope cl s S P Fin n 0 [] news := by
  have key : ∀ (j i : Nat) (ys : List Value), i + j = n → ys.length = i → (∀ (i : Nat) y, ys[i]? = some y → R i y) → LCg.CompRest prog w A h₀ L m env elt x scope cl s S P Fin j i ys news := by
    intro j
    induction j with
    | zero =>
      intro i ys hi hl hy
      exact LCg.CompRest.zero (fin ys (by omega) hy)
    | succ j ih =>
      intro i ys hi hl hy
      refine LCg.CompRest.succ ?_
      intro v I oI C oC D m₂ h tk E' hv hC hx F N off ne
      refine wpAny_mono (turn i v I oI C oC D m₂ ys h tk E' (by omega) hv hC hx F N off ne) (fun y s₂ hq => ?_) fun _ _ e => e
      obtain ⟨h', tk', nw, e, F', N', off', hS, hn, hR⟩ := hq
      rw [hn] at N' off' hS
      refine ⟨h', tk', news, e, F', N', off', hS, ?_⟩
      refine ih (i + 1) _ (by omega) (by rw [List.length_append, hl]; rfl) fun a z ha => ?_
      rcases Nat.lt_or_ge a ys.length with hlt | hge
      · rw [List.getElem?_append_left hlt] at ha
        exact hy a z ha
      · rw [List.getElem?_append_right hge] at ha
        have h0 : a - ys.length = 0 := by
          rcases hq : a - ys.length with _ | q
          · rfl
          · rw [hq] at ha; cases ha
        rw [h0] at ha
        have ea : a = i := by omega
        rw [ea]
        exact (Option.some.inj ha : y = z) ▸ hR
  exact key n 0 [] (by omega) rfl (fun i y h => by simp at h)
end

section
variable {h₀ : Heap} {L I C D : Addr} {m : Names} {s₁ : Shared} {oI oC oD : Obj} {S : Ledger → Prop} {h' : Heap} {tk : Nat} {all news : Ledger} {r : Int} {t : Tok} {R : Value → Prop} {y : Value}
theorem end_kcf (F : Fr h₀ L h' m) (N : News h₀ L h' all) (sub : ∀ p ∈ (I, oI) :: (C, oC) :: (D, oD) :: news, p ∈ all) (off : LCg.Off3 I C D news) (hS : S news) :
    LCg.CompEnd h₀ L m s₁ I oI C oC D oD S (fun y news' => KCfEl news r y news') (.int r t) { s₁ with heap := h', toks := tk } :=
  LCg.CompEnd.intro F N news sub off hS ⟨rfl, t, rfl⟩
theorem end_rel (F : Fr h₀ L h' m) (N : News h₀ L h' all) (sub : ∀ p ∈ (I, oI) :: (C, oC) :: (D, oD) :: news, p ∈ all) (off : LCg.Off3 I C D news) (hS : S news) (hR : R y) :
    LCg.CompEnd h₀ L m s₁ I oI C oC D oD S (fun y news' => REl news R y news') y { s₁ with heap := h', toks := tk } :=
  LCg.CompEnd.intro F N news sub off hS ⟨rfl, hR⟩
end
/-- an index -/
noncomputable def Idx (k : Int) (n : Nat) : Prop := 0 ≤ k ∧ k < (n : Int)
theorem Idx.to {k : Int} {n m : Nat} (h : Idx k n) (e : Nat.ble n m = true) : k < (m : Int) := Int.lt_of_lt_of_le h.2 (Int.ofNat_le.mpr (Nat.le_of_ble_eq_true e))
theorem Idx.fit {k : Int} {n : Nat} (h : Idx k n) (e : Nat.ble n 1000 = true) : k < 2 ^ 63 := Int.lt_trans (Int.lt_of_lt_of_le h.2 (Int.ofNat_le.mpr (Nat.le_of_ble_eq_true e))) (by decide)
section
variable {prog : Program} {w : World} {A : Around} {h₀ : Heap} {L : Addr} {m : Names} {env : Env} {elt : Expr} {x : PySem.Str} {scope : Scope} {cl : List (PySem.Str × Addr)} {s : Shared} {S : Ledger → Prop} {Fin : List Value → Ledger → Prop} {news : Ledger}
theorem rest_upto {n : Nat} (R : Int → Value → Prop)
    (turn : ∀ (k : Int) (t : Tok) I oI C oC D m₂ ys h tk (E' : Value → Shared → Prop), Idx k n → LCg.NsObj oC m₂ → m₂ x = some (.int k t) → Fr h₀ L h m → News h₀ L h ((I, oI) :: (C, oC) :: (D, LCg.lst ys) :: news) → LCg.Off3 I C D news → ((@Ne Nat I C) ∧ (@Ne Nat I D) ∧ (@Ne Nat C D)) →
      wpAny (model prog w) A (eval elt (compEnvC scope cl C env)) (LCg.CompEnd h₀ L m { s with heap := h, toks := tk } I oI C oC D (LCg.lst ys) S (fun y news' => REl news (R k) y news')) E' { s with heap := h, toks := tk })
    (fin : ∀ ys, ys.length = n → (∀ (i : Nat) y, ys[i]? = some y → R (i : Int) y) → Fin ys news) : LCg.CompRest prog w A h₀ L m env elt x scope cl s S (fun i v => ∃ t, v = .int (0 + (i : Int)) t) Fin n 0 [] news :=
  rest_rel (fun i => R (i : Int)) (fun i v I oI C oC D m₂ ys h tk E' hi hv hC hx F N off ne => by
    obtain ⟨t, rfl⟩ := hv
    rw [Int.zero_add] at hx
    exact turn (i : Int) t I oI C oC D m₂ ys h tk E' ⟨by omega, by omega⟩ hC hx F N off ne) fin
end
noncomputable def TurnEnd (h₀ : Heap) (L : Addr) (s : Shared) (I : Addr) (it : Obj) (J : Names → Ledger → Prop) (f : Flow) (s₂ : Shared) : Prop :=
  f = .next ∧ ∃ h' tk m' news', s₂ = { s with heap := h', toks := tk } ∧ Fr h₀ L h' m' ∧ News h₀ L h' ((I, it) :: news') ∧ (∀ p ∈ news', p.1 ≠ I) ∧ J m' news'
theorem TurnEnd.intro {h₀ : Heap} {L : Addr} {s : Shared} {I : Addr} {it : Obj} {J : Names → Ledger → Prop} {h' : Heap} {tk : Nat} {m' : Names} {all : Ledger} (news' : Ledger)
    (F : Fr h₀ L h' m') (N : News h₀ L h' all) (sub : ∀ p ∈ (I, it) :: news', p ∈ all) (off : ∀ p ∈ news', p.1 ≠ I) (hJ : J m' news') : TurnEnd h₀ L s I it J .next { s with heap := h', toks := tk } :=
  ⟨rfl, h', tk, m', news', rfl, F, fun p hp => N p (sub p hp), off, hJ⟩

section
variable {prog : Program} {w : World} {A : Around} {E : Value → Shared → Prop} {h₀ : Heap} {m : Names} {env : Env} {x : PySem.Str} {px : Pos} {body : List Stmt} {s : Shared} {news : Ledger} {Q : Flow → Shared → Prop}
theorem for_block {R : Result → Shared → Prop} {I : Addr} {fp : List Addr} {n : Nat} {P : Nat → Value → Prop} {St : Nat → Heap → Prop} {S : Ledger → Prop}
    (W : Walks prog w A I fp [I] n P St) (hIo : ∀ i h, St i h → ∃ o, h.get? I = some o)
    (hSt : ∀ i h h' o nw, St i h → h.get? I = some o → h'.get? I = some o → (∀ b o, h₀.get? b = some o → h'.get? b = some o) → News h₀ env.locals h' nw → S nw → St i h')
    (hst : St 0 s.heap) (F : Fr h₀ env.locals s.heap m) (N : News h₀ env.locals s.heap news) (hIL : env.locals ≠ I) (hI₀ : h₀.get? I = none) (off : ∀ p ∈ news, p.1 ≠ I)
    (J : Nat → Names → Ledger → Prop) (hS : ∀ i m n, J i m n → S n) (h0 : J 0 m news)
    (turn : ∀ i v it h tk m₁ news₁, i < n → P i v → J i m₁ news₁ → Fr h₀ env.locals h m₁ → News h₀ env.locals h ((I, it) :: news₁) → (∀ p ∈ news₁, p.1 ≠ I) →
      wpAny (model prog w) A (storeName env x v) (fun _ s₂ => wpAny (model prog w) A (execs body env) (TurnEnd h₀ env.locals s I it (J (i + 1))) (notedBy (model prog w) A env fun e s' => R (.error e) s') s₂) (notedBy (model prog w) A env fun e s' => R (.error e) s') { s with heap := h, toks := tk })
    (hR : ∀ h tk m' news', Fr h₀ env.locals h m' → News h₀ env.locals h news' → J n m' news' → R (.ok .next) { s with heap := h, toks := tk }) :
    codeAny (model prog w) A (.forLoop (.Name x px) (.ref I) body [] env) R s := by
  refine codeAny_forLoop
    (fun k s' => ∃ h' tk m' news' i, s' = { s with heap := h', toks := tk } ∧ St i h' ∧ Fr h₀ env.locals h' m' ∧ News h₀ env.locals h' news' ∧ (∀ p ∈ news', p.1 ≠ I) ∧ J i m' news' ∧ i ≤ n ∧ k = n + 1 - i) ?_ (n + 1)
    ⟨s.heap, s.toks, m, news, 0, rfl, hst, F, N, off, h0, Nat.zero_le _, rfl⟩
  rintro k s' ⟨h', tk, m', news', i, rfl, hst', F', N', off', hJ, hi, rfl⟩
  by_cases hlt : i < n
  · refine W.item i _ _ _ hlt hst' fun v h₁ tk₁ hP hst₁ hk₁ => ?_
    have F₁ := LCg.fr_but F' hk₁ hIL hI₀
    have N₁ := LCg.news_but N' hk₁ off'
    obtain ⟨oI, heI⟩ := hIo _ _ hst₁
    have N₂ : News h₀ env.locals h₁ ((I, oI) :: news') := fun p hp => by
      rcases List.mem_cons.mp hp with rfl | hp
      · exact ⟨heI, Ne.symm hIL, hI₀⟩
      · exact N₁ p hp
    refine wpAny_assign_Name (wpAny_mono (turn i v oI h₁ tk₁ m' news' hlt hP hJ F₁ N₂ off') (fun _ s₂ h₂ => wpAny_mono h₂ (fun f s₃ h₃ => ?_) fun _ _ e => e) fun _ _ e => e)
    obtain ⟨rfl, h₃, tk₃, m₃, news₃, rfl, F₃, N₃, off₃, hJ₃⟩ := h₃
    have N₃' : News h₀ env.locals h₃ news₃ := fun p hp => N₃ p (List.mem_cons_of_mem _ hp)
    exact ⟨n + 1 - (i + 1), by omega, h₃, tk₃, m₃, news₃, i + 1, rfl, hSt _ _ _ _ _ hst₁ heI (N₃ (I, oI) List.mem_cons_self).1 F₃.keep N₃' (hS _ _ _ hJ₃), F₃, N₃', off₃, hJ₃, hlt, rfl⟩
  · have hin : i = n := by omega
    subst hin
    refine W.done _ _ _ hst' fun h₁ tk₁ hk₁ => wpAny_execs_nil ?_
    exact hR h₁ tk₁ m' news' (LCg.fr_but F' hk₁ hIL hI₀) (LCg.news_but N' hk₁ off') hJ

/-- a for that stands at its iterable -/
noncomputable def ForAt (prog : Program) (w : World) (A : Around) (env : Env) (x : PySem.Str) (px : Pos) (body : List Stmt) (Q : Flow → Shared → Prop) (E : Value → Shared → Prop) (xv : Value) (s₁ : Shared) : Prop :=
  wpAny (model prog w) A (pyIter xv) (fun it s₂ => codeAny (model prog w) A (.forLoop (.Name x px) it body [] env) (fun r s' => match r with | .ok f => Q f s' | .error e => cameBackBy (model prog w) A env E e s') s₂) E s₁
theorem For_at {iter : Expr} {pos : Pos} (h : wpAny (model prog w) A (eval iter env) (fun xv s₁ => ForAt prog w A env x px body Q E xv s₁) E s)
    (hs : ∀ x, foldedSetIterable iter env x = pure x := by intro _; rfl) : wpAny (model prog w) A (exec (.For (.Name x px) iter body [] pos) env) Q E s := wpAny_For h hs
theorem ForAt.range {r : Addr} {a b : Int} {t u v : Tok} {n : Nat} (J : Nat → Names → Ledger → Prop) (hE : PassesOwn (model prog w) A env E) (hh : A.handled = none) (F : Fr h₀ env.locals s.heap m) (N : News h₀ env.locals s.heap news)
    (hr : IsRange s.heap r a b 1 t u v) (hsm : Builtin.Range.small a b 1 = true) (hn : Builtin.Range.rangeSize a b 1 = ((n : Nat) : Int)) (h0 : J 0 m news)
    (turn : ∀ i (t' : Tok) I it h tk m₁ news₁, i < n → J i m₁ news₁ → Fr h₀ env.locals h m₁ → News h₀ env.locals h ((I, it) :: news₁) → (∀ p ∈ news₁, p.1 ≠ I) → (∀ p ∈ news, p.1 < I) →
      wpAny (model prog w) A (storeName env x (.int (a + (i : Int)) t')) (fun _ s₂ => wpAny (model prog w) A (execs body env) (TurnEnd h₀ env.locals s I it (J (i + 1))) E s₂) E { s with heap := h, toks := tk })
    (fin : ∀ h tk m' news', Fr h₀ env.locals h m' → News h₀ env.locals h news' → J n m' news' → Q .next { s with heap := h, toks := tk }) : ForAt prog w A env x px body Q E (.ref r) s := by
  unfold ForAt
  refine wpAny_pyIter_range hr hsm ?_
  refine for_block (m := m) (news := news) (S := fun _ => True) (LCg.range_walks hh a n) (fun i h st => ⟨_, st⟩) LCg.range_st (by show IsRangeIter _ _ _ _ _; rw [hn]; simpa using Heap.get?_push_size _ rfl)
    (F.keeps fun _ _ e => Heap.get?_push_of_some _ e) (N.grown fun _ _ e => Heap.get?_push_of_some _ e) (Nat.ne_of_lt F.ns.lt) (next_is_new F) (fun p hp => Nat.ne_of_lt (Heap.lt_size (N p hp).1)) J (fun _ _ _ _ => trivial) h0 ?_ ?_
  · intro i v it h tk m₁ news₁ hi hP hJ F₁ N₁ off₁
    obtain ⟨t', rfl⟩ := hP
    refine wpAny_passesOwn hE ?_
    refine wpAny_mono (turn i t' _ it h tk m₁ news₁ hi hJ F₁ N₁ off₁ (fun p hp => Heap.lt_size (N p hp).1)) (fun _ s₂ h₂ => wpAny_passesOwn hE ?_) fun _ _ e => e
    exact wpAny_mono h₂ (fun f s₃ h₃ => h₃) fun _ _ e => e
  · intro h tk m' news' F' N' hJ
    exact fin h tk m' news' F' N' hJ
theorem ForAt.list {ax : Addr} {vs : List Value} {ks : List Int} {k : Nat} (J : Nat → Names → Ledger → Prop) (hE : PassesOwn (model prog w) A env E) (hh : A.handled = none) (F : Fr h₀ env.locals s.heap m) (N : News h₀ env.locals s.heap news)
    (hm : (ax, listOf vs.toArray k) ∈ news) (hI : IntsAre vs ks) (hS : ∀ i m n, J i m n → (ax, listOf vs.toArray k) ∈ n) (h0 : J 0 m news)
    (turn : ∀ (i : Nat) c (t' : Tok) I it h tk m₁ news₁, ks[i]? = some c → J i m₁ news₁ → Fr h₀ env.locals h m₁ → News h₀ env.locals h ((I, it) :: news₁) → (∀ p ∈ news₁, p.1 ≠ I) → (∀ p ∈ news, p.1 < I) →
      wpAny (model prog w) A (storeName env x (.int c t')) (fun _ s₂ => wpAny (model prog w) A (execs body env) (TurnEnd h₀ env.locals s I it (J (i + 1))) E s₂) E { s with heap := h, toks := tk })
    (fin : ∀ h tk m' news', Fr h₀ env.locals h m' → News h₀ env.locals h news' → J ks.length m' news' → Q .next { s with heap := h, toks := tk }) : ForAt prog w A env x px body Q E (.ref ax) s := by
  unfold ForAt
  have S0 : LCg.SrcAt h₀ ax vs.toArray news := .inr ⟨_, hm, rfl, _, rfl⟩
  have hl := S0.list F.keep N
  have hlt : ax < s.heap.objs.size := by obtain ⟨_, e, _⟩ := hl; exact Heap.lt_size e
  refine wpAny_pyIter_list hl ?_
  have up : ∀ b o, s.heap.get? b = some o → (s.heap.push { cls := .type "list_iterator", data := .fields #[.ref ax, .int 0 0] }).get? b = some o := fun b o e => Heap.get?_push_of_some _ e
  have hlen : vs.toArray.size = ks.length := by rw [List.size_toArray, hI.length]
  have W := Walks.list (prog := prog) (w := w) hh s.heap.objs.size ax (Nat.ne_of_lt hlt) vs.toArray
  rw [hlen] at W
  refine for_block (m := m) (news := news) (S := LCg.SrcAt h₀ ax vs.toArray) W (fun i h st => by obtain ⟨o, e, _⟩ := st.1; exact ⟨o, e⟩) LCg.list_st ⟨⟨_, Heap.get?_push_size _ rfl, rfl, rfl⟩, hl.push _⟩
    (F.keeps up) (N.grown up) (Nat.ne_of_lt F.ns.lt) (next_is_new F) (fun p hp => Nat.ne_of_lt (Heap.lt_size (N p hp).1)) J (fun i m n hJ => .inr ⟨_, hS i m n hJ, rfl, _, rfl⟩) h0 ?_ ?_
  · intro i v it h tk m₁ news₁ hi hP hJ F₁ N₁ off₁
    obtain ⟨c, t', rfl, hc⟩ := hI.at i v (by simpa using hP)
    refine wpAny_passesOwn hE ?_
    refine wpAny_mono (turn i c t' _ it h tk m₁ news₁ hc hJ F₁ N₁ off₁ (fun p hp => Heap.lt_size (N p hp).1)) (fun _ s₂ h₂ => wpAny_passesOwn hE ?_) fun _ _ e => e
    exact wpAny_mono h₂ (fun f s₃ h₃ => h₃) fun _ _ e => e
  · intro h tk m' news' F' N' hJ
    exact fin h tk m' news' F' N' hJ
end
theorem canon1 {m : Names} {x : PySem.Str} {v : Value} (h : m x = some v) : m = fun y => if y = x then some v else m y := by
  funext y; split
  · rename_i e; rw [e, h]
  · rfl

/-- ints, whichever -/
noncomputable def AllInts (ws : List Value) : Prop := ∀ v ∈ ws, ∃ n t, v = .int n t
theorem AllInts.of {vs : List Value} {ns : List Int} (h : IntsAre vs ns) : AllInts vs := by
  induction h with
  | nil => intro v hv; cases hv
  | cons n t _ ih => intro v hv; rcases List.mem_cons.mp hv with rfl | hv; exact ⟨n, t, rfl⟩; exact ih v hv
theorem AllInts.ints {vs : List Value} (h : AllInts vs) : ∃ ns, IntsAre vs ns := by
  induction vs with
  | nil => exact ⟨[], .nil⟩
  | cons v r ih =>
    obtain ⟨n, t, rfl⟩ := h v (.head _)
    obtain ⟨ns, hr⟩ := ih fun v hv => h v (.tail _ hv)
    exact ⟨n :: ns, .cons n t hr⟩
theorem sz63 {vs : List Value} {ns : List Int} (h : IntsAre vs ns) (h63 : ns.length ≤ 63) : vs.toArray.size ≤ sizeLine := kmk_sz h (Nat.le_trans h63 (by rw [sizeLine_eq]; decide))
theorem pick_ints {vs : List Value} {ns : List Int} (h : IntsAre vs ns) (a b c : Option Int) : ∃ ms, IntsAre (slicePick vs.toArray a b c).toList ms ∧ ms.length ≤ ns.length := by
  have h1 : AllInts (slicePick vs.toArray a b c).toList := by
    intro v hv
    unfold slicePick at hv
    simp only [List.toList_toArray] at hv
    obtain ⟨i, _, hi⟩ := List.mem_filterMap.mp hv
    refine AllInts.of h v ?_
    have : vs[i]? = some v := by simpa using hi
    exact List.mem_of_getElem? this
  obtain ⟨ms, hm⟩ := h1.ints
  refine ⟨ms, hm, ?_⟩
  have h2 := slicePick_size_le vs.toArray a b c
  have h3 := hm.length
  have h4 := h.length
  simp only [List.size_toArray] at h2
  rw [Array.length_toList] at h3
  omega
section
variable {prog : Program} {w : World} {A : Around} {E : Value → Shared → Prop} {s : Shared} {h₀ : Heap} {L l : Addr} {m : Names} {news : Ledger} {value slice : PySem.Expr} {vs : List Value} {ns : List Int} {vl vu vk : Value} {lo hi st : Option Int} {ops : List Value} {Q : Value → Shared → Prop}
theorem slice_some (F : Fr h₀ L s.heap m) (N : News h₀ L s.heap news) (hl : s.heap.IsList l vs.toArray) (pl : IsPart vl lo) (pu : IsPart vu hi) (pk : IsPart vk st) (h0 : st ≠ some 0) (hI : IntsAre vs ns) (h63 : ns.length ≤ 63)
    (h : ∀ D ws ms h', Fr h₀ L h' m → News h₀ L h' ((D, listOf (List.toArray ws) 0) :: news) → (∀ p ∈ news, p.1 < D) → IntsAre ws ms → ms.length ≤ 63 → Q (.ref D) { s with heap := h' })
    (hs : subscripted slice false (.ref l) (.ref s.heap.objs.size) = operate ops (getItem (.ref l) (.ref s.heap.objs.size))) (ht : ∀ r, letTemporaryGo value (.ref l) r = pure ()) :
    wpAny (model prog w) A (subscriptTail value slice (.ref l) (.ref s.heap.objs.size)) Q E { s with heap := s.heap.push { cls := .type "slice", data := .fields #[vl, vu, vk] } } := by
  have hz : vs.toArray.size ≤ sizeLine := sz63 hI h63
  obtain ⟨ms, hm, hl2⟩ := pick_ints hI lo hi st
  exact kmk_slice3_lit F N hl pl pu pk h0 rfl (fun D h' F' N' l1 => h D _ ms h' F' N' l1 hm (Nat.le_trans hl2 h63)) hs ht hz
end
section
variable {prog : Program} {w : World} {A : Around} {E : Value → Shared → Prop} {s : Shared} {D : Addr} {value slice : PySem.Expr} {its : Array Value} {ns : List Int} {k : Int} {u : Tok} {Q : Value → Shared → Prop}
theorem item_made (hl : s.heap.IsList D its) (hi : IntsAre its.toList ns) (h0 : 0 ≤ k) (h1 : k < ns.length) (hfit : k < 2 ^ 63) (h : ∀ t, Q (.int (ns.getD k.toNat 0) t) s)
    (hs : subscripted slice false (.ref D) (.int k u) = operate [.ref D, .int k u] (getItem (.ref D) (.int k u)) := by with_unfolding_all rfl) :
    wpAny (model prog w) A (subscriptTail value slice (.ref D) (.int k u)) Q E s := item_anyK (vs := its.toList) (by rw [Array.toArray_toList]; exact hl) hi h0 h1 hfit h hs
end
theorem sum_mod {ns : List Int} : 0 ≤ (ns.map fun x => x.fmod 1000000).sum ∧ (ns.map fun x => x.fmod 1000000).sum ≤ 999999 * (ns.length : Int) := by
  induction ns with
  | nil => exact ⟨by decide, by decide⟩
  | cons a r ih =>
    have h0 : 0 ≤ a.fmod 1000000 := Int.fmod_nonneg_of_pos _ (by decide)
    have h1 : a.fmod 1000000 < 1000000 := Int.fmod_lt_of_pos _ (by decide)
    simp only [List.map_cons, List.sum_cons, List.length_cons]
    omega
end Mine
end
section
open PySem PySem.W PySem.Spec PySem.Calls PyProof.Rows
set_option maxRecDepth 100000
set_option maxHeartbeats 0
set_option pp.deepTerms.threshold 6
set_option pp.proofs.threshold 3
namespace Mine
noncomputable def CellOk (v : Value) : Prop := ∃ n t, v = .int n t ∧ 0 ≤ n ∧ n < 100000000
theorem cells_ints {ys : List Value} (h : ∀ (i : Nat) y, ys[i]? = some y → CellOk y) : ∃ C, IntsAre ys C ∧ ∀ c ∈ C, 0 ≤ c ∧ c < 100000000 := by
  induction ys with
  | nil => exact ⟨[], .nil, fun c hc => nomatch hc⟩
  | cons v r ih =>
    obtain ⟨n, t, rfl, h0, h1⟩ := h 0 v rfl
    obtain ⟨C, hC, hb⟩ := ih fun i y hy => h (i + 1) y (by simpa using hy)
    exact ⟨n :: C, .cons n t hC, fun c hc => by
      rcases List.mem_cons.mp hc with rfl | hc
      · exact ⟨h0, h1⟩
      · exact hb c hc⟩
theorem cell_ok {k : Int} {ms : List Int} {t : Tok} (hk : Idx k 5) (h : ms.length ≤ 63) : CellOk (.int (([1023, 5802, 14795, 36695, 31] : List Int).getD k.toNat 0 + (ms.map fun x => x.fmod 1000000).sum) t) := by
  have h1 : ∀ i : Nat, i < 5 → 0 ≤ ([1023, 5802, 14795, 36695, 31] : List Int).getD i 0 ∧ ([1023, 5802, 14795, 36695, 31] : List Int).getD i 0 ≤ 36695 := by decide
  have h2 := h1 k.toNat (by have := hk.1; have := hk.2; omega)
  have h3 := sum_mod (ns := ms)
  refine ⟨_, _, rfl, ?_, ?_⟩ <;> omega
theorem c_cells {w : World} {mean mg mb} (c1 c2 c3 c4 : Addr) (o1 o2 o3 o4 : Obj) (l : Addr) (vs : List Value) (ns : List Int) : CClaim w mean mg mb 4 111 [(c1,o1),(c2,o2),(c3,o3),(c4,o4)] (fun h₀ => h₀.IsList l vs.toArray ∧ IntsAre vs ns ∧ ns.length ≤ 63) [.ref l]
  (fun h₀ L m s Q _E => ∀ (D : Addr) (us : List Value) (C : List Int) (h' : Heap) (tk' : Nat), IntsAre us C → C.length = 5 → (∀ c ∈ C, 0 ≤ c ∧ c < 100000000) → Fr h₀ L h' m → News h₀ L h' ((D, listOf us.toArray us.length) :: [(c1,o1),(c2,o2),(c3,o3),(c4,o4)]) → (@Ne Nat c1 D) ∧ (@Ne Nat c2 D) ∧ (@Ne Nat c3 D) ∧ (@Ne Nat c4 D) → Q (.ref D) { s with heap := h', toks := tk' }) := by
  unfold CClaim
  k_fill
  w_top off
  k_with_none
  k_with "CompEnd" => (plain_pass; (first | refine' end_kcf ?Fw0 ?Nw0 ?subw0 ?offw0 ?Sw0 | refine' end_rel ?Fw0 ?Nw0 ?subw0 ?offw0 ?Sw0 (cell_ok (by assumption) (by assumption))); (case Fw0 => k_asm); (case Nw0 => k_asm); (case subw0 => first | kcf_all); (case offw0 => first | assumption | (simp only [LCg.Off3, and_true]; done) | (simp only [LCg.Off3, and_true]; assumption)); (case Sw0 => first | lcg_src | assumption))
  k_with "eval ListComp" => (k_here; k_dflt (refine LCg.ListComp_U (F₀ := by k_asm) (by with_unfolding_all rfl) (by decide) (by rfl) (by decide) (by rfl) ?_))
  k_with "CompSrc" => (k_here; k_dflt (first | (refine LCg.CompSrc.range (by rfl) (by k_asm) (by k_asm) (by assumption) (by decide) (by first | exact rangeSize_nat _ _ | rfl) (by exact Nat.le_of_ble_eq_true rfl) ?_; intro g'; (refine' rest_upto (fun _ => CellOk) ?wdTw2 ?wdFw2); (case' wdTw2 => (intro k' t' I' oI' C' oC' D' m' ys' h' tk' E' hk' hC' hx' F' N' off' ne'; (simp only [LCg.Off3, and_true] at off'))); (case' wdFw2 => (intro ys' hl' hr'; obtain ⟨ns', hI', hb'⟩ := cells_ints hr'; have hl2' := hI'.length.symm.trans hl'; clear hr'))) | (refine LCg.CompSrc.ledger (by rfl) (by k_asm) (by k_asm) (by k_mem) (sz63 (by with_reducible assumption) (by with_reducible assumption)) ?_; intro g'; (refine' kcf_list (fun x => x.fmod 1000000) (by with_reducible assumption) (fun k' t' I' oI' C' oC' D' m' ys' h' tk' E' hk' hC' hx' F' N' off' ne' hMark' => ?_) ?_); (all_goals (try (simp only [LCg.Off3, and_true] at off'))))))
  k_with "subscriptTail Name Name ref int" => (k_here; k_dflt (refine' item_made ?k1w3 ?k3w3 ?k4w3 ?k5w3 ?k6w3 ?_ ?k7w3; (case k1w3 => exact News.isList (by k_asm) (by k_mem)); (case k3w3 => l_ints); (case k4w3 => exact And.left (by assumption : Idx _ _)); (case k5w3 => exact Idx.to (by assumption) rfl); (case k6w3 => exact Idx.fit (by assumption) rfl); (case k7w3 => with_unfolding_all rfl); k_whole); intro _)
  k_with "subscriptTail Name Slice ref ref" => (k_here; k_dflt (refine' slice_some ?Fw4 ?Nw4 ?lw4 ?k1w4 ?k2w4 ?k3w4 ?k0w4 ?iw4 ?i2w4 ?_ ?sw4 ?tw4; (case Fw4 => k_asm); (case Nw4 => k_asm); (case lw4 => first | (with_reducible assumption) | exact Fr.lst (by assumption) (by assumption) | exact Fr.lst (by assumption) (Fr.lst (by assumption) (by assumption))); (case k1w4 => exact IsPart.int _ _); (case k2w4 => exact IsPart.none); (case k3w4 => exact IsPart.int _ _); (case k0w4 => decide); (case iw4 => with_reducible assumption); (case i2w4 => with_reducible assumption); (case sw4 => with_unfolding_all rfl); (case tw4 => kmk_pure)); intro D' ws' ms' h' F' N' l1 hI' hC'; (try k_lt l1); (try k_sweep))
  intro dp un gd cn cs a ccd cl outer A₀ base h₀ L m s Q E B F X N T hk hx hd9 hu9 hret
  obtain ⟨hL, hI, hlen⟩ := hx
  refine wpAny_call ?_
  k_dflt (refine' code_defC ?k1 ?k2 ?k3 ?k4 ?k5 ?k6 ?k7 ?k8 ?k9 ?kA ?kB ?kC ?kD ?kE ?_ ?c2 ?c3 ?c4)
  case k1 => k_asm
  case k2 => k_asm
  case k3 => k_asm
  case k4 => k_asm
  case k5 => k_asm
  case k6 => exact rfl
  case k7 => exact rfl
  case k8 => assumption
  case k9 => k_is
  case kA => k_is
  case kB => ktr_room
  case kC => exact BindsTo.of_eq rfl
  case kD => exact rfl
  case kE => decide +kernel
  case c2 => exact rfl
  case c3 => exact rfl
  case c4 => exact rfl
  k_whole
  intro g' L' h' tk' cells' FG' F' N' Y' B' X' T' l1
  (try k_lt l1)
  k_cells Y'
  (try simp only [List.cons_append, List.nil_append] at N')
  (try dsimp only)
  (try k_lift B')
  (try k_fold)
  k_steps
  all_goals exact hret _ _ _ _ _ (by assumption) (by assumption) (by assumption) (by k_asm) (by refine' cb_drop ?cbN ?cbS; (case cbN => assumption); (case cbS => kcj_all)) ⟨by k_ne, by k_ne, by k_ne, by k_ne⟩
end Mine
end
section
open PySem PyProof.Rows
set_option maxRecDepth 100000
namespace Mine
noncomputable def sub27 (c : Nat) : Nat := if c = 50 then 55 else c
theorem app_toList (x y : Str) : (x ++ y).cps.toList = x.cps.toList ++ y.cps.toList := by
  show (x.cps ++ y.cps).toList = _
  simp
theorem map27 {l : List Nat} (h : 50 ∉ l) : l.map sub27 = l := by
  conv => rhs; rw [← List.map_id l]
  apply List.map_congr_left
  intro c hc
  unfold sub27
  rw [if_neg]
  · rfl
  · intro e; subst e; exact h hc
theorem join27 (ps : List Str) (h : ∀ p ∈ ps, 50 ∉ p.cps.toList) : (Str.join ⟨#[55]⟩ ps).cps.toList = (Str.join ⟨#[50]⟩ ps).cps.toList.map sub27 := by
  induction ps with
  | nil => rfl
  | cons x r ih =>
    have ih' := ih fun p hp => h p (.tail _ hp)
    have hx := h x (.head _)
    cases r with
    | nil => exact (map27 hx).symm
    | cons y r =>
      show (x ++ ⟨#[55]⟩ ++ Str.join ⟨#[55]⟩ (y :: r)).cps.toList = ((x ++ ⟨#[50]⟩ ++ Str.join ⟨#[50]⟩ (y :: r)).cps.toList).map sub27
      rw [app_toList, app_toList, app_toList, app_toList, List.map_append, List.map_append, ih', map27 hx]
      rfl
theorem replace27 (x : Str) : (Txt.replace x (Str.ofString "2") (Str.ofString "7")).cps.toList = x.cps.toList.map sub27 := by
  show (Txt.replace x ⟨#[50]⟩ ⟨#[55]⟩).cps.toList = _
  rw [StrLaws.replace_one, join27 _ (StrLaws.split_free x 50), StrLaws.join_split]
theorem len_toList (x : Str) : x.length = x.cps.toList.length := rfl
theorem len_rep {x : Str} (h : x.length ≤ 4) : (Txt.replace x (Str.ofString "2") (Str.ofString "7")).length ≤ 100 := by
  rw [len_toList, replace27, List.length_map]
  have : x.cps.toList.length ≤ 4 := h
  omega
end Mine
end
section
open PySem PySem.W PySem.Spec PySem.Calls PyProof.Rows
set_option maxRecDepth 100000
set_option maxHeartbeats 0
set_option pp.deepTerms.threshold 6
set_option pp.proofs.threshold 3
namespace Mine
/-- the letters of a number, the highest first -/
noncomputable def ap16 (n : Nat) : List UInt8 := if h : n = 0 then [] else ap16 (n / 16) ++ [UInt8.ofNat (65 + n % 16)]
termination_by n
decreasing_by omega
noncomputable def stAP (z k : Int) (v : Array UInt8) : Prop := ap16 k.toNat ++ v.toList = ap16 z.natAbs
noncomputable abbrev SAP (z k : Int) (v : Array UInt8) : Prop := 0 ≤ k ∧ k ≤ (z.natAbs : Int) ∧ (v.size : Int) + k ≤ (z.natAbs : Int) ∧ stAP z k v
theorem ap_start (z : Int) : SAP z (if z < 0 then -z else z) #[] := by
  have e : (if z < 0 then -z else z) = (z.natAbs : Int) := by split <;> omega
  rw [e]
  refine ⟨by omega, by omega, by simp, ?_⟩
  unfold stAP
  simp
theorem ap_end {z k : Int} {v : Array UInt8} (h : stAP z k v) (hk : k = 0) : v.toList = ap16 z.natAbs := by
  subst hk
  unfold stAP at h
  rw [show ((0 : Int).toNat) = 0 from rfl, ap16] at h
  simpa using h
noncomputable abbrev APb : Array UInt8 := #[65, 66, 67, 68, 69, 70, 71, 72, 73, 74, 75, 76, 77, 78, 79, 80]
theorem ap_pick : ∀ i : Nat, i < 16 → KBy.picked APb (some (i : Int)) (some ((i : Int) + 1)) = #[UInt8.ofNat (65 + i)] := by decide +kernel
theorem ap_pick' {k : Int} : KBy.picked APb (some (k.fmod 16)) (some (k.fmod 16 + 1)) = #[UInt8.ofNat (65 + (k.fmod 16).toNat)] := by
  have h0 : 0 ≤ k.fmod 16 := Int.fmod_nonneg_of_pos k (by decide)
  have h1 : k.fmod 16 < 16 := Int.fmod_lt_of_pos k (by decide)
  have := ap_pick (k.fmod 16).toNat (by omega)
  rwa [Int.toNat_of_nonneg h0] at this
section
variable {prog : Program} {w : World} {A : Around} {E : Value → Shared → Prop} {s : Shared} {value slice : PySem.Expr} {t : Tok} {h₀ : Heap} {L : Addr} {m : PySem.Str → Option Value} {news : List (Addr × Obj)} {t1 t2 : Tok} {k : Int} {Q : Value → Shared → Prop} {v : Array UInt8} {tv : Tok}
theorem ap_slice (hF : Fr h₀ L s.heap m) (hN : News h₀ L s.heap news)
    (h : ∀ h' t' k', Fr h₀ L h' m → News h₀ L h' news → Q (.bytes #[UInt8.ofNat (65 + (k.fmod 16).toNat)] t') { s with heap := h', toks := k' })
    (hs : subscripted slice false (.bytes APb t) (.ref s.heap.objs.size) = operate [.ref s.heap.objs.size, .bytes APb t] (getItem (.bytes APb t) (.ref s.heap.objs.size)) := by with_unfolding_all rfl)
    (ht : ∀ r, letTemporaryGo value (.bytes APb t) r = pure () := by intro _; with_unfolding_all rfl) :
    wpAny (model prog w) A (subscriptTail value slice (.bytes APb t) (.ref s.heap.objs.size)) Q E { s with heap := s.heap.push { cls := .type "slice", data := .fields #[.int (k.fmod 16) t1, .int (k.fmod 16 + 1) t2, .none] } } :=
  KBc.slice_K hF hN rfl (.int _ _) (.int _ _) (by decide) (fun h' t' k' F N _ => by rw [ap_pick']; exact h h' t' k' F N) hs ht
theorem ap_add {x : UInt8} (hv : v.size ≤ 100000) (h : ∀ t' k', Q (.bytes (#[x] ++ v) t') { s with toks := k' }) : wpAny (model prog w) A (binaryOp .Add (.bytes #[x] t) (.bytes v tv)) Q E s :=
  KBy.add_bytes (by simp; omega) h
end
theorem ap_turn {z k : Int} {v : Array UInt8} (h : stAP z k v) (h0 : 0 ≤ k) (h1 : k ≤ (z.natAbs : Int)) (h2 : (v.size : Int) + k ≤ (z.natAbs : Int)) (hk : k ≠ 0) : SAP z (k.fdiv 16) (#[UInt8.ofNat (65 + (k.fmod 16).toNat)] ++ v) := by
  obtain ⟨n, rfl⟩ : ∃ n : Nat, k = (n : Int) := ⟨k.toNat, by omega⟩
  have e1 : Int.fdiv (n : Int) 16 = ((n / 16 : Nat) : Int) := by rw [Int.fdiv_eq_ediv_of_nonneg _ (by decide)]; rfl
  have e2 : Int.fmod (n : Int) 16 = ((n % 16 : Nat) : Int) := by rw [Int.fmod_eq_emod_of_nonneg _ (by decide)]; rfl
  rw [e1, e2]
  refine ⟨by omega, by omega, by rw [Array.size_append]; simp; omega, ?_⟩
  unfold stAP at h ⊢
  rw [Int.toNat_natCast] at h
  rw [Int.toNat_natCast, Int.toNat_natCast, ← h]
  conv => rhs; rw [ap16]
  rw [dif_neg (by omega)]
  simp
theorem ap_meas {k : Int} (h0 : 0 ≤ k) (hk : k ≠ 0) : (k.fdiv 16).toNat < k.toNat := by
  rw [Int.fdiv_eq_ediv_of_nonneg _ (by decide)]
  omega
theorem c_int2ap {w mean mg mb news} (z : Int) (tk : Tok) : CClaim w mean mg mb 2 89 news (fun _ => z.natAbs < 100000) [.int z tk]
   (fun h₀ L m s Q _E => ∀ (r : Array UInt8) (t : Tok) (h' : Heap) (tk' : Nat), r.toList = ap16 z.natAbs → Fr h₀ L h' m → News h₀ L h' news → Q (.bytes r t) { s with heap := h', toks := tk' }) := by
  unfold CClaim
  k_fill
  w_top off
  k_with_none
  k_with "subscriptTail" => (k_here; (with_reducible show wpAny _ _ (subscriptTail _ (Expr.Slice _ _ none _) (Value.bytes _ _) (Value.ref _)) _ _ _); (with_reducible rename Fr _ _ _ _ => F'); (with_reducible rename News _ _ _ _ => N'); (refine ap_slice (s := ⟨_, _, _, _, _⟩) F' N' ?_); intro _ _ _ F' N')
  k_with "binaryOp Add bytes bytes" => (k_here; (refine ap_add (by omega) ?_); intro _ _)
  intro dp un gd cn cs a ccd cl outer A₀ base h₀ L m s Q E B F X N T hk hx hd9 hu9 hret
  k_with "exec While Name cons nil" => k_while (fun _ k v => SAP z k v) (fun _ k _ => k.toNat) "num" "val"
  k_with "state" => first | exact ap_start z | exact ap_turn (by assumption) (by assumption) (by assumption) (by assumption) (by assumption)
  k_with "measure" => exact ap_meas (by assumption) (by assumption)
  refine wpAny_call ?_
  k_dflt cell_enter
  k_steps
  all_goals refine' hret _ _ _ _ (ap_end ?e1 ?e2) ?e3 ?e4
  all_goals first | assumption | omega
end Mine
end
section
open PySem PySem.W PySem.Spec PySem.Calls PyProof.Rows
set_option maxRecDepth 100000
namespace Mine
/-! _law_laid: what it builds, the loop's invariant, rules for its steps -/
noncomputable def coverS (cell : Int) : PySem.Str := Txt.item (PySem.Str.ofString "x \x0b\u2028") (cell.fmod 4)
noncomputable def frontS (cell : Int) (p k : Nat) : PySem.Str := if p / 2 ^ k % 2 = 1 then PySem.Str.ofString "" else coverS cell
noncomputable def endsL : List PySem.Str := [PySem.Str.ofString "\n", PySem.Str.ofString "\r", PySem.Str.ofString "\r\n"]
noncomputable def endS (cell : Int) (k : Int) : PySem.Str := endsL.getD ((cell + k).fmod 3).toNat PySem.Str.empty
noncomputable def mailS (B9 : List Int) (cell : Int) (p : Nat) : Nat → PySem.Str
  | 0 => PySem.Str.ofString ""
  | i + 1 => mailS B9 cell p i ++ (frontS cell p i ++ Txt.mul (PySem.Str.ofString ".") (B9.getD i 0 + 1) ++ endS cell i)
noncomputable def frontsL (cell : Int) (p i : Nat) : List PySem.Str := (List.range i).map (frontS cell p)
theorem fronts_succ {cell : Int} {p i : Nat} : frontsL cell p (i + 1) = frontsL cell p i ++ [frontS cell p i] := by
  unfold frontsL; rw [List.range_succ, List.map_append]; rfl
theorem fronts_len {cell : Int} {p i : Nat} : (frontsL cell p i).length = i := by unfold frontsL; simp
theorem len_cover {cell : Int} : (coverS cell).length ≤ 1 := Nat.le_refl 1
theorem len_front {cell : Int} {p k : Nat} : (frontS cell p k).length ≤ 1 := by
  unfold frontS; split
  · decide
  · exact len_cover
theorem len_end {cell k : Int} : (endS cell k).length ≤ 2 := by
  unfold endS endsL
  generalize ((cell + k).fmod 3).toNat = j
  match j with
  | 0 => decide
  | 1 => decide
  | 2 => decide
  | n + 3 => exact Nat.zero_le _
theorem fdiv4 (i : Nat) : (i : Int).fdiv 4 = ((i / 4 : Nat) : Int) := by rw [Int.fdiv_eq_ediv_of_nonneg _ (by decide)]; rfl
theorem fmod4 (i : Nat) : (i : Int).fmod 4 = ((i % 4 : Nat) : Int) := by rw [Int.fmod_eq_emod_of_nonneg _ (by decide)]; rfl
theorem ap16_zero : ap16 0 = [] := by rw [ap16]; rfl
theorem ap16_pos {n : Nat} (h : n ≠ 0) : ap16 n = ap16 (n / 16) ++ [UInt8.ofNat (65 + n % 16)] := by rw [ap16, dif_neg h]
/-- the j-th letter from behind -/
theorem ap16_get : ∀ (j n : Nat), j < (ap16 n).length → ((ap16 n).getD ((ap16 n).length - 1 - j) 0).toNat = 65 + n / 16 ^ j % 16 := by
  intro j
  induction j with
  | zero =>
    intro n h
    have hn : n ≠ 0 := by intro e; rw [e, ap16_zero] at h; exact absurd h (by decide)
    rw [ap16_pos hn, List.length_append]
    have e : (ap16 (n / 16)).length + [UInt8.ofNat (65 + n % 16)].length - 1 - 0 = (ap16 (n / 16)).length := by simp
    rw [e, List.getD_eq_getElem?_getD, List.getElem?_append_right (Nat.le_refl _), Nat.sub_self]
    show (UInt8.ofNat (65 + n % 16)).toNat = _
    rw [Nat.pow_zero, Nat.div_one]
    exact UInt8.toNat_ofNat_of_lt' (by have : UInt8.size = 256 := rfl; omega)
  | succ j ih =>
    intro n h
    have hn : n ≠ 0 := by intro e; rw [e, ap16_zero] at h; exact absurd h (Nat.not_lt_zero _)
    rw [ap16_pos hn] at h ⊢
    rw [List.length_append] at h ⊢
    have h1 : j < (ap16 (n / 16)).length := by simp at h; omega
    have e : (ap16 (n / 16)).length + [UInt8.ofNat (65 + n % 16)].length - 1 - (j + 1) = (ap16 (n / 16)).length - 1 - j := by simp; omega
    rw [e, List.getD_eq_getElem?_getD, List.getElem?_append_left (by omega), ← List.getD_eq_getElem?_getD, ih _ h1, Nat.div_div_eq_div_mul, Nat.pow_succ, Nat.mul_comm 16]
theorem ap16_past : ∀ (j n : Nat), (ap16 n).length ≤ j → n / 16 ^ j = 0 := by
  intro j
  induction j with
  | zero =>
    intro n h
    by_cases hn : n = 0
    · rw [hn]
    · rw [ap16_pos hn, List.length_append] at h; exact absurd h (by simp)
  | succ j ih =>
    intro n h
    by_cases hn : n = 0
    · rw [hn]; exact Nat.zero_div _
    · rw [ap16_pos hn, List.length_append] at h
      have := ih (n / 16) (by simp at h; omega)
      rw [Nat.div_div_eq_div_mul] at this
      rw [Nat.pow_succ, Nat.mul_comm]
      exact this
theorem ap16_len : ∀ (j n : Nat), n < 16 ^ j → (ap16 n).length ≤ j := by
  intro j
  induction j with
  | zero => intro n h; have : n = 0 := by simp at h; exact h
            rw [this, ap16_zero]; exact Nat.le_refl _
  | succ j ih =>
    intro n h
    by_cases hn : n = 0
    · rw [hn, ap16_zero]; exact Nat.zero_le _
    · rw [ap16_pos hn, List.length_append]
      have := ih (n / 16) (by rw [Nat.pow_succ] at h; omega)
      simp; omega
theorem size_ap {W : Array UInt8} {p : Nat} (h : W.toList = ap16 p) : W.size = (ap16 p).length := by rw [← h]; rfl
/-- the bit -/
theorem bit_ap {p i : Nat} : p / 16 ^ (i / 4) % 16 / 2 ^ (i % 4) % 2 = p / 2 ^ i % 2 := by
  have e : (16 : Nat) ^ (i / 4) = 2 ^ (4 * (i / 4)) := by rw [Nat.pow_mul]
  have h2 : 2 ^ i = 2 ^ (4 * (i / 4)) * 2 ^ (i % 4) := by rw [← Nat.pow_add]; congr 1; omega
  rw [e, h2, ← Nat.div_div_eq_div_mul]
  generalize p / 2 ^ (4 * (i / 4)) = q
  have h3 : i % 4 = 0 ∨ i % 4 = 1 ∨ i % 4 = 2 ∨ i % 4 = 3 := by omega
  rcases h3 with h | h | h | h <;> rw [h] <;> (try simp) <;> omega
section
variable {prog : Program} {w : World} {A : Around} {E : Value → Shared → Prop} {s : Shared} {W : Array UInt8} {t u : Tok} {p i : Nat} {Q : Value → Shared → Prop} {value slice : PySem.Expr}
theorem ap_len_call (hW : W.toList = ap16 p) (hp : p < 4096) (h : ∀ t' k', Q (.int (W.size : Nat) t') { s with toks := k' }) : wpAny (model prog w) A (call (.builtin "len") [.bytes W t]) Q E s :=
  len_bytes (by rw [size_ap hW]; exact Nat.le_trans (ap16_len 3 p hp) (by decide)) (h _ _)
theorem ap_sub (hW : W.toList = ap16 p) (hp : p < 4096) (hlt : (i : Int).fdiv 4 < ((W.size : Nat) : Int)) (h : ∀ t' k', Q (.int (65 + ((p / 16 ^ (i / 4) % 16 : Nat) : Int)) t') { s with toks := k' })
    (hs : subscripted slice false (.bytes W t) (.int (-1 - (i : Int).fdiv 4) u) = operate [.bytes W t, .int (-1 - (i : Int).fdiv 4) u] (getItem (.bytes W t) (.int (-1 - (i : Int).fdiv 4) u)) := by with_unfolding_all rfl)
    (ht : ∀ r, letTemporaryGo value (.bytes W t) r = pure () := by intro _; with_unfolding_all rfl) :
    wpAny (model prog w) A (subscriptTail value slice (.bytes W t) (.int (-1 - (i : Int).fdiv 4) u)) Q E s := by
  rw [fdiv4, size_ap hW] at hlt
  have hj : i / 4 < (ap16 p).length := Int.ofNat_lt.mp hlt
  have h3 := ap16_len 3 p hp
  refine tail_of_ItemOn ⟨"bytes", _, FB.slot_bytes_getitem.lookup, typeIs_bytes _ _ _, getItem_gives (typeIs_bytes s _ t) (by decide) FB.slot_bytes_getitem FB.entry_bytes_getitem (FB.args_bytes_getitem_2 _ _)
    (gives_bytes_getitem _ _ t u ((ap16 p).getD ((ap16 p).length - 1 - i / 4) 0) ?_ ?_) ?_⟩ hs ht
  · rw [fdiv4]
    simp only [PySem.Builtin.Bytes.fitsIndex, Bool.and_eq_true, decide_eq_true_eq]; omega
  · rw [fdiv4]
    have : seqIndex? (-1 - ((i / 4 : Nat) : Int)) W.size = some ((ap16 p).length - 1 - i / 4) := by
      rw [size_ap hW]
      unfold seqIndex?
      have h1 : (-1 - ((i / 4 : Nat) : Int)) < 0 := by omega
      simp only [h1, if_true]
      rw [if_pos (by simp only [Bool.and_eq_true, decide_eq_true_eq]; omega)]
      congr 1
      omega
    rw [this]
    show W[(ap16 p).length - 1 - i / 4]? = _
    rw [← Array.getElem?_toList, hW, List.getD_eq_getElem?_getD, List.getElem?_eq_getElem (by omega)]
    rfl
  · rw [ap16_get _ _ hj]
    exact h _ _
end

theorem canon6 {m : Names} {x1 x2 x3 x4 x5 x6 : PySem.Str} {v1 v2 v3 v4 v5 v6 : Value} (h1 : m x1 = some v1) (h2 : m x2 = some v2) (h3 : m x3 = some v3) (h4 : m x4 = some v4) (h5 : m x5 = some v5) (h6 : m x6 = some v6) :
    m = fun y => if y = x1 then some v1 else if y = x2 then some v2 else if y = x3 then some v3 else if y = x4 then some v4 else if y = x5 then some v5 else if y = x6 then some v6 else m y := by
  funext y
  by_cases e1 : y = x1
  · rw [if_pos e1, e1, h1]
  rw [if_neg e1]
  by_cases e2 : y = x2
  · rw [if_pos e2, e2, h2]
  rw [if_neg e2]
  by_cases e3 : y = x3
  · rw [if_pos e3, e3, h3]
  rw [if_neg e3]
  by_cases e4 : y = x4
  · rw [if_pos e4, e4, h4]
  rw [if_neg e4]
  by_cases e5 : y = x5
  · rw [if_pos e5, e5, h5]
  rw [if_neg e5]
  by_cases e6 : y = x6
  · rw [if_pos e6, e6, h6]
  rw [if_neg e6]
/-- the loop of _law_laid -/
structure LaidF (B9 : List Int) (cell : Int) (p : Nat) (lf le lb : Addr) (W : Array UInt8) (tw tc : Tok) (i : Nat) (mail : PySem.Str) (tm : Tok) (vf : List Value) (m : Names) : Prop where
  fS : StrsAre vf (frontsL cell p i)
  fM : mail = mailS B9 cell p i
  fL : mail.length ≤ 110 * i
  n1 : m (PySem.Str.ofString "mail") = some (.str mail tm)
  n2 : m (PySem.Str.ofString "fronts") = some (.ref lf)
  n3 : m (PySem.Str.ofString "ends") = some (.ref le)
  n4 : m (PySem.Str.ofString "boxes") = some (.ref lb)
  n5 : m (PySem.Str.ofString "word") = some (.bytes W tw)
  n6 : m (PySem.Str.ofString "cell") = some (.int cell tc)
noncomputable def LaidJ (B9 : List Int) (cell : Int) (p : Nat) (lf le lb : Addr) (oe ob : Obj) (rest : Ledger) (W : Array UInt8) (tw tc : Tok) (i : Nat) (m : Names) (n : Ledger) : Prop :=
  ∃ mail tm vf nf, n = (lf, listOf (List.toArray vf) nf) :: (le, oe) :: (lb, ob) :: rest ∧ LaidF B9 cell p lf le lb W tw tc i mail tm vf m
section
variable {prog : Program} {w : World} {A : Around} {E : Value → Shared → Prop} {s : Shared} {h₀ : Heap} {m : Names} {env : Env} {x : PySem.Str} {px : Pos} {body : List Stmt} {Q : Flow → Shared → Prop}
  {B9 : List Int} {cell : Int} {p : Nat} {lf le lb : Addr} {oe ob : Obj} {rest : Ledger} {W : Array UInt8} {tw tc tm : Tok} {r : Addr} {t u v : Tok} {nf : Nat} {a b : Int} {news : Ledger}
theorem laid_for (hE : PassesOwn (model prog w) A env E) (hh : A.handled = none) (F : Fr h₀ env.locals s.heap m) (N : News h₀ env.locals s.heap ((lf, listOf #[] nf) :: (le, oe) :: (lb, ob) :: rest))
    (hr : IsRange s.heap r 0 12 1 t u v)
    (n1 : m (PySem.Str.ofString "mail") = some (.str (PySem.Str.ofString "") tm)) (n2 : m (PySem.Str.ofString "fronts") = some (.ref lf)) (n3 : m (PySem.Str.ofString "ends") = some (.ref le)) (n4 : m (PySem.Str.ofString "boxes") = some (.ref lb))
    (n5 : m (PySem.Str.ofString "word") = some (.bytes W tw)) (n6 : m (PySem.Str.ofString "cell") = some (.int cell tc))
    (turn : ∀ (i : Nat) (t' : Tok) I it h tk (m₁ : Names) mail tm vf nf, i < 12 → Idx (i : Int) 12 → StrsAre vf (frontsL cell p i) → mail = mailS B9 cell p i → mail.length ≤ 110 * i →
      Fr h₀ env.locals h (fun y => if y = PySem.Str.ofString "mail" then some (.str mail tm) else if y = PySem.Str.ofString "fronts" then some (.ref lf) else if y = PySem.Str.ofString "ends" then some (.ref le) else if y = PySem.Str.ofString "boxes" then some (.ref lb) else if y = PySem.Str.ofString "word" then some (.bytes W tw) else if y = PySem.Str.ofString "cell" then some (.int cell tc) else m₁ y) →
      News h₀ env.locals h ((I, it) :: (lf, listOf (List.toArray vf) nf) :: (le, oe) :: (lb, ob) :: rest) → (lf < I ∧ le < I ∧ lb < I ∧ AllLt I rest) →
      wpAny (model prog w) A (storeName env x (.int (i : Int) t')) (fun _ s₂ => wpAny (model prog w) A (execs body env) (TurnEnd h₀ env.locals s I it (LaidJ B9 cell p lf le lb oe ob rest W tw tc (i + 1))) E s₂) E { s with heap := h, toks := tk })
    (fin : ∀ h tk (m₁ : Names) mail tm vf nf, StrsAre vf (frontsL cell p 12) → mail = mailS B9 cell p 12 → mail.length ≤ 1320 →
      Fr h₀ env.locals h (fun y => if y = PySem.Str.ofString "mail" then some (.str mail tm) else if y = PySem.Str.ofString "fronts" then some (.ref lf) else if y = PySem.Str.ofString "ends" then some (.ref le) else if y = PySem.Str.ofString "boxes" then some (.ref lb) else if y = PySem.Str.ofString "word" then some (.bytes W tw) else if y = PySem.Str.ofString "cell" then some (.int cell tc) else m₁ y) →
      News h₀ env.locals h ((lf, listOf (List.toArray vf) nf) :: (le, oe) :: (lb, ob) :: rest) → Q .next { s with heap := h, toks := tk }) : ForAt prog w A env x px body Q E (.ref r) s := by
  refine ForAt.range (n := 12) (LaidJ B9 cell p lf le lb oe ob rest W tw tc) hE hh F N hr (by decide) (by decide) ⟨_, tm, [], nf, rfl, ⟨.nil, rfl, by (show (PySem.Str.ofString "").length ≤ 110 * 0); decide, n1, n2, n3, n4, n5, n6⟩⟩ ?_ ?_
  · intro i t' I it h tk m₁ news₁ hi hJ F₁ N₁ off₁ lt₁
    obtain ⟨mail, tm, vf, nf, rfl, S⟩ := hJ
    rw [Int.zero_add]
    rw [canon6 S.n1 S.n2 S.n3 S.n4 S.n5 S.n6] at F₁
    refine turn i t' I it h tk m₁ mail tm vf nf hi ⟨by omega, by omega⟩ S.fS S.fM S.fL F₁ N₁ ⟨lt₁ _ (.head _), lt₁ _ (.tail _ (.head _)), lt₁ _ (.tail _ (.tail _ (.head _))), ?_⟩
    exact allLt_of fun q hq => lt₁ q (.tail _ (.tail _ (.tail _ hq)))
  · intro h tk m' news' F' N' hJ
    obtain ⟨mail, tm, vf, nf, rfl, S⟩ := hJ
    rw [canon6 S.n1 S.n2 S.n3 S.n4 S.n5 S.n6] at F'
    exact fin h tk m' mail tm vf nf S.fS S.fM S.fL F' N'
end
end Mine
end
section
open PySem PySem.W PySem.Spec PySem.Calls PyProof.Rows
set_option maxRecDepth 100000
namespace Mine
/-! rules for the turn of _law_laid's loop -/
theorem figNat {p i : Nat} : ((65 + ((p / 16 ^ (i / 4) % 16 : Nat) : Int) - 65).fdiv (2 ^ ((i : Int).fmod 4).toNat)).fmod 2 = ((p / 2 ^ i % 2 : Nat) : Int) := by
  have e1 : (65 + ((p / 16 ^ (i / 4) % 16 : Nat) : Int) - 65) = ((p / 16 ^ (i / 4) % 16 : Nat) : Int) := by omega
  rw [e1, fmod4, Int.toNat_natCast]
  have e2 : ((2 : Int) ^ (i % 4)) = ((2 ^ (i % 4) : Nat) : Int) := by simp
  rw [e2, Int.fdiv_eq_ediv_of_nonneg _ (Int.natCast_nonneg _), ← Int.natCast_ediv, Int.fmod_eq_emod_of_nonneg _ (by decide)]
  rw [← bit_ap]
  rfl
theorem fig_one {cell : Int} {p i : Nat} (h : ((65 + ((p / 16 ^ (i / 4) % 16 : Nat) : Int) - 65).fdiv (2 ^ ((i : Int).fmod 4).toNat)).fmod 2 = 1) : frontS cell p i = PySem.Str.ofString "" := by
  rw [figNat] at h
  unfold frontS
  rw [if_pos (by omega)]
theorem fig_nil {cell : Int} {p i : Nat} (h : ¬ ((65 + ((p / 16 ^ (i / 4) % 16 : Nat) : Int) - 65).fdiv (2 ^ ((i : Int).fmod 4).toNat)).fmod 2 = 1) : frontS cell p i = Txt.item (PySem.Str.ofString "x \x0b\u2028") (cell.fmod 4) := by
  rw [figNat] at h
  unfold frontS
  rw [if_neg (by omega)]
  rfl
theorem fig_past {cell : Int} {p i : Nat} {W : Array UInt8} (hW : W.toList = ap16 p) (h : ¬ (i : Int).fdiv 4 < ((W.size : Nat) : Int)) : frontS cell p i = Txt.item (PySem.Str.ofString "x \x0b\u2028") (cell.fmod 4) := by
  rw [fdiv4, size_ap hW] at h
  have h1 := ap16_past (i / 4) p (by omega)
  have h2 := bit_ap (p := p) (i := i)
  rw [h1, Nat.zero_mod, Nat.zero_div] at h2
  unfold frontS
  rw [if_neg (by omega)]
  rfl
theorem zero_fdiv {b : Int} : (0 : Int).fdiv b = 0 := by simp
theorem zero_ne {b : Int} {P : Prop} (h : ((0 : Int).fdiv b).fmod 2 = 1) : P := by rw [zero_fdiv] at h; exact absurd h (by decide)
theorem strs_sz {vs : List Value} {xs : List PySem.Str} {n : Nat} (h : StrsAre vs xs) (hn : xs.length ≤ n) (hs : n ≤ 1000) : vs.toArray.size ≤ sizeLine := by
  have := h.length
  rw [sizeLine_eq, List.size_toArray]; omega
section
variable {prog : Program} {w : World} {A : Around} {E : Value → Shared → Prop} {s : Shared} {t u ty : Tok} {Q : Value → Shared → Prop} {value slice : PySem.Expr} {h₀ : Heap} {L D : Addr} {m : Names} {news : Ledger} {vs : List Value} {ns : List Int} {cell : Int} {p i n : Nat} {y : PySem.Str}
/-- fronts[k], just appended -/
theorem front_at (N : News h₀ L s.heap news) (hm : (D, listOf (vs.toArray.push (.str y ty)) n) ∈ news) (hS : StrsAre vs (frontsL cell p i)) (hi : Idx (i : Int) 12) (h : ∀ t', Q (.str y t') s)
    (hs : subscripted slice false (.ref D) (.int (i : Int) u) = operate [.ref D, .int (i : Int) u] (getItem (.ref D) (.int (i : Int) u)) := by with_unfolding_all rfl) :
    wpAny (model prog w) A (subscriptTail value slice (.ref D) (.int (i : Int) u)) Q E s := by
  have e : vs.toArray.push (Value.str y ty) = (vs ++ [Value.str y ty]).toArray := by simp
  rw [e] at hm
  have hl := fronts_len (cell := cell) (p := p) (i := i)
  refine KTb.item_list (ws := frontsL cell p i ++ [y]) (News.isList N hm) (hS.append' (.cons _ _ .nil)) hi.1 (by rw [List.length_append, hl]; simp; omega) (hi.fit rfl) (fun t' _ => ?_) hs
  have : (frontsL cell p i ++ [y]).getD ((i : Int)).toNat PySem.Str.empty = y := by
    rw [Int.toNat_natCast, List.getD_eq_getElem?_getD, List.getElem?_append_right (by omega), hl, Nat.sub_self]; rfl
  rw [this]
  exact h t'
/-- ends[..] -/
theorem end_at {k : Int} (N : News h₀ L s.heap news) (hm : (D, listOf (List.toArray vs) n) ∈ news) (hv : StrsAre vs [PySem.Str.ofString "\n", PySem.Str.ofString "\r", PySem.Str.ofString "\r\n"]) (h : ∀ t', Q (.str (endS cell k) t') s)
    (hs : subscripted slice false (.ref D) (.int ((cell + k).fmod 3) u) = operate [.ref D, .int ((cell + k).fmod 3) u] (getItem (.ref D) (.int ((cell + k).fmod 3) u)) := by with_unfolding_all rfl) :
    wpAny (model prog w) A (subscriptTail value slice (.ref D) (.int ((cell + k).fmod 3) u)) Q E s := by
  have g1 : 0 ≤ (cell + k).fmod 3 := Int.fmod_nonneg_of_pos _ (by decide)
  have g2 : (cell + k).fmod 3 < 3 := Int.fmod_lt_of_pos _ (by decide)
  exact KTb.item_list (News.isList N hm) hv g1 g2 (Int.lt_trans g2 (by decide)) (fun t' _ => h t') hs
/-- boxes[k] -/
theorem box_at (N : News h₀ L s.heap news) (hm : (D, listOf (List.toArray vs) n) ∈ news) (hv : IntsAre vs ns) (hl : ns.length = 13) (hi : Idx (i : Int) 12) (h : ∀ t', Q (.int (ns.getD i 0) t') s)
    (hs : subscripted slice false (.ref D) (.int (i : Int) u) = operate [.ref D, .int (i : Int) u] (getItem (.ref D) (.int (i : Int) u)) := by with_unfolding_all rfl) :
    wpAny (model prog w) A (subscriptTail value slice (.ref D) (.int (i : Int) u)) Q E s :=
  ksa_sub N hm hv hi.1 (by rw [hl]; exact Int.lt_trans hi.2 (by decide)) (hi.fit rfl) (fun t' => h t') hs
/-- the cover -/
theorem cover_at (h : ∀ t' k', Q (.str (Txt.item (PySem.Str.ofString "x \x0b\u2028") (cell.fmod 4)) t') { s with toks := k' })
    (hs : subscripted slice false (.str (PySem.Str.ofString "x \x0b\u2028") t) (.int (cell.fmod 4) u) = operate [.str (PySem.Str.ofString "x \x0b\u2028") t, .int (cell.fmod 4) u] (getItem (.str (PySem.Str.ofString "x \x0b\u2028") t) (.int (cell.fmod 4) u)) := by with_unfolding_all rfl)
    (ht : ∀ r, letTemporaryGo value (.str (PySem.Str.ofString "x \x0b\u2028") t) r = pure () := by intro _; with_unfolding_all rfl) :
    wpAny (model prog w) A (subscriptTail value slice (.str (PySem.Str.ofString "x \x0b\u2028") t) (.int (cell.fmod 4) u)) Q E s :=
  KXi.item (n := 4) (by decide) (by have := Int.fmod_nonneg_of_pos cell (b := 4) (by decide); omega) (by have := Int.fmod_lt_of_pos cell (b := 4) (by decide); omega) (by decide) (fun _ => h _ _) hs ht
/-- '.' * (boxes[k] + 1) -/
theorem dots_at (hv : ∀ b ∈ ns, 0 ≤ b ∧ b ≤ 98) (h : ∀ t' k', (Txt.mul (PySem.Str.ofString ".") (ns.getD i 0 + 1)).length ≤ 99 → Q (.str (Txt.mul (PySem.Str.ofString ".") (ns.getD i 0 + 1)) t') { s with toks := k' }) :
    wpAny (model prog w) A (binaryOp .Mult (.str (PySem.Str.ofString ".") t) (.int (ns.getD i 0 + 1) u)) Q E s := by
  have hb : 0 ≤ ns.getD i 0 ∧ ns.getD i 0 ≤ 98 := by
    rw [List.getD_eq_getElem?_getD]
    by_cases hi : i < ns.length
    · rw [List.getElem?_eq_getElem hi]; exact hv _ (List.getElem_mem hi)
    · rw [List.getElem?_eq_none (by omega)]; exact ⟨by decide, by decide⟩
  refine KXi.mul (n := 1) (by decide) (by decide) (by omega) (by omega) fun t' k' _ hl => h t' k' ?_
  have := hl (by omega)
  omega
theorem laid_append (F : Fr h₀ L s.heap m) {its : Array Value} {x : Value} {news' : Ledger} (N : News h₀ L s.heap news) (U : Upd D (listOf its n) (listOf (its.push x) (n + 1)) news news') (hz : its.size ≤ sizeLine)
    (h : ∀ h', Fr h₀ L h' m → News h₀ L h' news' → Q .none { s with heap := h' }) : wpAny (model prog w) A (call (.builtin "list.append") [.ref D, x]) Q E s := append_K F N U h hz
theorem mail_add {x y : PySem.Str} (hz : x.length + y.length ≤ 1000000) (h : ∀ t' k, (x ++ y).length = x.length + y.length → Q (.str (x ++ y) t') { s with toks := k }) : wpAny (model prog w) A (binaryOp .Add (.str x t) (.str y u)) Q E s :=
  add_str (fun t' k => h t' k (by simp [PySem.Str.length_append])) (by rw [sizeLine_eq]; omega)
theorem mail_iadd {x y : PySem.Str} (hz : x.length + y.length ≤ 1000000) (h : ∀ t' k, (x ++ y).length = x.length + y.length → Q (.str (x ++ y) t') { s with toks := k }) : wpAny (model prog w) A (inplaceOp .Add (.str x t) (.str y u)) Q E s :=
  iadd_str (fun t' k => h t' k (by simp [PySem.Str.length_append])) (by rw [sizeLine_eq]; omega)
end
theorem laid_upd {I lf le lb : Addr} {it o o' oe ob : Obj} {rest : Ledger} (l1 : lf < I ∧ le < I ∧ lb < I ∧ AllLt I rest) (l2 : le < lf ∧ lb < lf ∧ AllLt lf rest) : Upd lf o o' ((I, it) :: (lf, o) :: (le, oe) :: (lb, ob) :: rest) ((I, it) :: (lf, o') :: (le, oe) :: (lb, ob) :: rest) := by
  refine Upd.tail (Nat.ne_of_gt l1.1) (Upd.head fun q hq => ?_)
  rcases List.mem_cons.mp hq with rfl | hq
  · exact Nat.ne_of_lt l2.1
  rcases List.mem_cons.mp hq with rfl | hq
  · exact Nat.ne_of_lt l2.2.1
  · exact Nat.ne_of_lt (kst_ltOf l2.2.2 q hq)
theorem add_z {x y : PySem.Str} {a b : Nat} (h1 : x.length ≤ a) (h2 : y.length ≤ b) (h : Nat.ble (a + b) 1000000 = true) : x.length + y.length ≤ 1000000 := Nat.le_trans (Nat.add_le_add h1 h2) (Nat.le_of_ble_eq_true h)
theorem len_itemX {x : PySem.Str} {i : Int} : (Txt.item x i).length ≤ 1 := Nat.le_refl 1
theorem news_tail {h₀ h : Heap} {L : Addr} {p : Addr × Obj} {l : Ledger} (N : News h₀ L h (p :: l)) : News h₀ L h l := fun q hq => N q (.tail _ hq)
section
variable {h₀ h' : Heap} {L I : Addr} {s : Shared} {it : Obj} {B9 : List Int} {cell : Int} {p : Nat} {lf le lb : Addr} {oe ob : Obj} {rest all : Ledger} {W : Array UInt8} {tw tc ty tm : Tok} {i : Nat} {m' : Names} {tk : Nat} {mail mail' y : PySem.Str} {vf : List Value} {nf : Nat}
theorem laid_end (F : Fr h₀ L h' m') (N : News h₀ L h' all) (sub : ∀ q ∈ (I, it) :: (lf, listOf (vf.toArray.push (.str y ty)) nf) :: (le, oe) :: (lb, ob) :: rest, q ∈ all) (lt : lf < I ∧ le < I ∧ lb < I ∧ AllLt I rest)
    (n1 : m' (PySem.Str.ofString "mail") = some (.str (mail ++ (y ++ Txt.mul (PySem.Str.ofString ".") (B9.getD i 0 + 1) ++ endS cell i)) tm)) (n2 : m' (PySem.Str.ofString "fronts") = some (.ref lf)) (n3 : m' (PySem.Str.ofString "ends") = some (.ref le)) (n4 : m' (PySem.Str.ofString "boxes") = some (.ref lb))
    (n5 : m' (PySem.Str.ofString "word") = some (.bytes W tw)) (n6 : m' (PySem.Str.ofString "cell") = some (.int cell tc))
    (hS : StrsAre vf (frontsL cell p i)) (hy : frontS cell p i = y) (hm : mail = mailS B9 cell p i) (hl : mail.length ≤ 110 * i) (hd : (Txt.mul (PySem.Str.ofString ".") (B9.getD i 0 + 1)).length ≤ 99) :
    TurnEnd h₀ L s I it (LaidJ B9 cell p lf le lb oe ob rest W tw tc (i + 1)) .next { s with heap := h', toks := tk } := by
  refine TurnEnd.intro _ F N sub ?_ ⟨_, tm, vf ++ [.str y ty], nf, ?_, ⟨?_, ?_, ?_, n1, n2, n3, n4, n5, n6⟩⟩
  · intro q hq
    rcases List.mem_cons.mp hq with rfl | hq
    · exact Nat.ne_of_lt lt.1
    rcases List.mem_cons.mp hq with rfl | hq
    · exact Nat.ne_of_lt lt.2.1
    rcases List.mem_cons.mp hq with rfl | hq
    · exact Nat.ne_of_lt lt.2.2.1
    · exact Nat.ne_of_lt (kst_ltOf lt.2.2.2 q hq)
  · have : vf.toArray.push (Value.str y ty) = (vf ++ [Value.str y ty]).toArray := by simp
    rw [this]
  · rw [fronts_succ, hy]; exact hS.append' (.cons _ _ .nil)
  · rw [hm, ← hy]; rfl
  · have h1 := len_front (cell := cell) (p := p) (k := i)
    have h2 := len_end (cell := cell) (k := (i : Int))
    rw [hy] at h1
    simp only [PySem.Str.length_append]
    omega
end
end Mine
end
section
open PySem PySem.Sre
set_option maxRecDepth 100000
namespace Mine
noncomputable def code1 : Array Nat := #[14, 4, 0, 1, 1, 6, 1, 16, 46, 1]
noncomputable def code2 : Array Nat := #[14, 9, 4, 1, 2, 16, 10, 16, 13, 0, 7, 7, 16, 13, 16, 10, 15, 18, 5, 16, 10, 15, 13, 11, 16, 13, 5, 5, 0, 16, 10, 1, 15, 2, 0, 1]

noncomputable def it : Nat → M → M
  | 0, m => m
  | n + 1, m => it n m.step
theorem it_add (a b : Nat) (m : M) : it (a + b) m = it b (it a m) := by
  induction a generalizing m with
  | zero => rw [Nat.zero_add]; rfl
  | succ a ih => rw [Nat.succ_add]; exact ih _
theorem step_done {m : M} (h : m.outcome.isSome = true) : m.step = m := by
  unfold M.step; rw [if_pos h]
theorem it_done {m : M} (h : m.outcome.isSome = true) : ∀ n, it n m = m
  | 0 => rfl
  | n + 1 => by rw [it, step_done h]; exact it_done h n
theorem runFor_it : ∀ (n : Nat) (m : M), M.runFor n m = it n m
  | 0, _ => rfl
  | n + 1, m => by
    rw [M.runFor]
    split
    · rename_i h; rw [it_done h]
    · exact runFor_it n _

/-- the machine at the first pattern, about to try place p -/
noncomputable def A1 (text : Array Nat) (lim p : Nat) (first must : Bool) (seen : Seen) : M :=
  { code := code1, text, lim, start := p, lastStart := lim, mustAdvance := must, pc := 5, pos := p, handed := p, outermost := first, marks := #[],
    frames := [{ wait := .nextStart, pc := 5, pos := p, outermost := first }], weight := 1, seen }

theorem a1_step (text : Array Nat) (lim p : Nat) (first must : Bool) (seen : Seen) :
    (A1 text lim p first must seen).step = if (p == 0 || text.getD (p - 1) 0 == 10) then { A1 text lim p first must ((seen.add 6).add 44) with pc := 7 } else { A1 text lim p first must ((seen.add 6).add 44) with answer := some false } := rfl
theorem a1_lit (text : Array Nat) (lim p : Nat) (first must : Bool) (seen : Seen) :
    ({ A1 text lim p first must seen with pc := 7 } : M).step = if p ≥ lim then { A1 text lim p first must (seen.add 16) with pc := 7, answer := some false } else if text.getD p 0 == 46 then { A1 text lim p first must (seen.add 16) with pc := 9, pos := p + 1 } else { A1 text lim p first must (seen.add 16) with pc := 7, answer := some false } := by
  show (if p ≥ lim then _ else _) = _
  split
  · rfl
  · cases h : text.getD p 0 == 46
    · show (match (Except.ok (text.getD p 0 == 46, seen.add 16) : Except String (Bool × Seen)) with | .error why => _ | .ok (false, seen) => _ | .ok (true, seen) => _) = _
      rw [h]; rfl
    · show (match (Except.ok (text.getD p 0 == 46, seen.add 16) : Except String (Bool × Seen)) with | .error why => _ | .ok (false, seen) => _ | .ok (true, seen) => _) = _
      rw [h]; rfl

theorem a1_fail (text : Array Nat) (lim p : Nat) (first must : Bool) (seen : Seen) :
    ({ A1 text lim p first must seen with answer := some false } : M).step = if p < lim then A1 text lim (p + 1) false false seen else { A1 text lim p first must seen with frames := [], weight := 0, answer := some false } := rfl
theorem a1_fail7 (text : Array Nat) (lim p : Nat) (first must : Bool) (seen : Seen) :
    ({ A1 text lim p first must seen with pc := 7, answer := some false } : M).step = if p < lim then A1 text lim (p + 1) false false seen else { A1 text lim p first must seen with frames := [], weight := 0, answer := some false } := rfl
theorem a1_over (text : Array Nat) (lim p : Nat) (first must : Bool) (seen : Seen) :
    ({ A1 text lim p first must seen with frames := [], weight := 0, answer := some false } : M).step = { A1 text lim p first must seen with frames := [], weight := 0, answer := some false, outcome := some .failed } := rfl
theorem a1_succ (text : Array Nat) (lim p : Nat) (first must : Bool) (seen : Seen) :
    ({ A1 text lim p first must seen with pc := 9, pos := p + 1 } : M).step = { A1 text lim p first must (seen.add 1) with pc := 9, pos := p + 1, handed := p + 1, answer := some true } := by
  show (if (first && ((false && _) || (must && (p + 1 == p)))) = true then _ else _) = _
  rw [if_neg (by simp)]
  rfl
theorem a1_won (text : Array Nat) (lim p : Nat) (first must : Bool) (seen : Seen) :
    it 2 ({ A1 text lim p first must seen with pc := 9, pos := p + 1, handed := p + 1, answer := some true } : M) = { A1 text lim p first must seen with frames := [], weight := 0, handed := p + 1, answer := some true, outcome := some .matched } := rfl

/-- what a search told -/
noncomputable def Tells (m : M) : Option (Nat × Nat) → Prop
  | none => m.outcome = some .failed
  | some (a, b) => m.outcome = some .matched ∧ m.start = a ∧ m.handed = b
noncomputable def hit1 (text : Array Nat) (p : Nat) : Bool := (p == 0 || text.getD (p - 1) 0 == 10) && text.getD p 0 == 46
noncomputable def find1 (text : Array Nat) : Nat → Nat → Option (Nat × Nat)
  | 0, _ => none
  | d + 1, p => if hit1 text p then some (p, p + 1) else find1 text d (p + 1)

theorem a1_run (text : Array Nat) (lim : Nat) : ∀ (d p : Nat) (first must : Bool) (seen : Seen), p + d = lim → ∃ N, N ≤ 4 * d + 5 ∧ Tells (it N (A1 text lim p first must seen)) (find1 text d p) := by
  intro d
  induction d with
  | zero =>
    intro p first must seen h
    have hp : ¬ p < lim := by omega
    refine ⟨4, by omega, ?_⟩
    show (it 3 (A1 text lim p first must seen).step).outcome = _
    rw [a1_step]
    cases (p == 0 || text.getD (p - 1) 0 == 10)
    · show (it 2 ({ A1 text lim p first must ((seen.add 6).add 44) with answer := some false } : M).step).outcome = _
      rw [a1_fail, if_neg hp]; rfl
    · show (it 2 ({ A1 text lim p first must ((seen.add 6).add 44) with pc := 7 } : M).step).outcome = _
      rw [a1_lit, if_pos (by omega)]
      show (it 1 ({ A1 text lim p first must (((seen.add 6).add 44).add 16) with pc := 7, answer := some false } : M).step).outcome = _
      rw [a1_fail7, if_neg hp]; rfl
  | succ d ih =>
    intro p first must seen h
    have hp : p < lim := by omega
    show ∃ N, N ≤ 4 * (d + 1) + 5 ∧ Tells _ (if hit1 text p then some (p, p + 1) else find1 text d (p + 1))
    unfold hit1
    have e : (A1 text lim p first must seen).step = _ := a1_step ..
    cases hb : (p == 0 || text.getD (p - 1) 0 == 10)
    · rw [hb] at e
      obtain ⟨N, hN, hT⟩ := ih (p + 1) false false ((seen.add 6).add 44) (by omega)
      refine ⟨N + 2, by omega, ?_⟩
      show Tells (it (N + 1) (A1 text lim p first must seen).step) _
      rw [e]
      show Tells (it N ({ A1 text lim p first must ((seen.add 6).add 44) with answer := some false } : M).step) _
      rw [a1_fail, if_pos hp]
      simpa using hT
    · rw [hb] at e
      have e2 := a1_lit text lim p first must ((seen.add 6).add 44)
      rw [if_neg (by omega)] at e2
      cases hc : (text.getD p 0 == 46)
      · rw [hc] at e2
        obtain ⟨N, hN, hT⟩ := ih (p + 1) false false (((seen.add 6).add 44).add 16) (by omega)
        refine ⟨N + 3, by omega, ?_⟩
        show Tells (it (N + 2) (A1 text lim p first must seen).step) _
        rw [e]
        show Tells (it (N + 1) ({ A1 text lim p first must ((seen.add 6).add 44) with pc := 7 } : M).step) _
        rw [e2]
        show Tells (it N ({ A1 text lim p first must (((seen.add 6).add 44).add 16) with pc := 7, answer := some false } : M).step) _
        rw [a1_fail7, if_pos hp]
        simpa using hT
      · rw [hc] at e2
        refine ⟨5, by omega, ?_⟩
        show Tells (it 4 (A1 text lim p first must seen).step) _
        rw [e]
        show Tells (it 3 ({ A1 text lim p first must ((seen.add 6).add 44) with pc := 7 } : M).step) _
        rw [e2]
        show Tells (it 2 ({ A1 text lim p first must (((seen.add 6).add 44).add 16) with pc := 9, pos := p + 1 } : M).step) _
        rw [a1_succ, a1_won]
        exact ⟨rfl, rfl, rfl⟩
theorem search1 (text : Array Nat) (pos lim : Nat) (must : Bool) (h : pos ≤ lim) : ∃ N, N ≤ 4 * lim + 5 ∧ Tells (it N (forSearch code1 text 0 pos lim must)) (find1 text (lim - pos) pos) := by
  by_cases hp : pos = lim
  · subst hp
    refine ⟨1, by omega, ?_⟩
    rw [Nat.sub_self]
    show (M.step (if (decide (pos > pos) || decide (pos - pos < 1)) = true then _ else _)).outcome = _
    rw [if_pos (by simp)]
    rfl
  · obtain ⟨N, hN, hT⟩ := a1_run text lim (lim - pos) pos true must (({} : Seen).add 14) (by omega)
    refine ⟨N, by omega, ?_⟩
    have e : forSearch code1 text 0 pos lim must = A1 text lim pos true must (({} : Seen).add 14) := by
      show (if (decide (pos > lim) || decide (lim - pos < 1)) = true then _ else _) = _
      rw [if_neg (by simp; omega)]
      rfl
    rw [e]; exact hT

/-- the machine at the second pattern, which tries place s -/
noncomputable def B (text : Array Nat) (lim s : Nat) (first : Bool) (pc pos : Nat) (out : Bool) (frames : List Sre.Frame) (weight : Nat) (answer : Option Bool) (handed : Nat) (seen : Seen) : M :=
  { code := code2, text, lim, start := s, lastStart := lim, mustAdvance := false, pc, pos, handed, outermost := out, marks := #[], frames, weight, answer, seen }
noncomputable def F0 (s : Nat) (first : Bool) : Sre.Frame := { wait := .nextStart, pc := 10, pos := s, outermost := first }
noncomputable def F1 (s : Nat) (first : Bool) (alt : Nat) : Sre.Frame := { wait := .nextBranch, pc := alt, pos := s, outermost := first, kept := { lastmark := -1, lastindex := -1, whole := false, marks := #[] } }
noncomputable def F2 (s : Nat) (first : Bool) : Sre.Frame := { wait := .lookNot, pc := 26, pos := s + 1, outermost := first, kept := { lastmark := -1, lastindex := -1, whole := false, marks := #[] } }

theorem lit_step (m : M) (h1 : m.outcome = none) (h2 : m.answer = none) (h3 : m.pc < m.code.size) (h4 : m.code.getD m.pc 0 = 16) (h5 : m.pos < m.lim) :
    m.step = if m.text.getD m.pos 0 == m.code.getD (m.pc + 1) 0 then { m with seen := m.seen.add 16, pc := m.pc + 2, pos := m.pos + 1 } else { m with seen := m.seen.add 16, answer := some false } := by
  obtain ⟨code, text, lim, start, lastStart, wholeText, mustAdvance, pc, pos, handed, outermost, marks, lastmark, lastindex, loops, inner, frames, weight, answer, seen, outcome⟩ := m
  simp only at h1 h2 h3 h4 h5
  subst h1; subst h2
  unfold M.step
  simp only [Option.isSome_none, Bool.false_eq_true, if_false, h3, if_true]
  unfold M.exec
  simp (iota := false) only [M.word, Nat.add_zero, h4]
  have e : ops[16]? = some .LITERAL := rfl
  rw [e]
  simp only [ge_iff_le, Nat.not_le.mpr h5, if_false]
  have e2 : ∀ sn, accepts code pc (text.getD pos 0) sn = .ok (text.getD pos 0 == code.getD (pc + 1) 0, sn) := by
    intro sn; unfold accepts; simp (iota := false) only [h4]; rw [e]
  have e3 : itemWidth code pc = 2 := by unfold itemWidth; simp (iota := false) only [h4]; rw [e]
  rw [e2, e3]
  cases text.getD pos 0 == code.getD (pc + 1) 0 <;> rfl
theorem lit_over (m : M) (h1 : m.outcome = none) (h2 : m.answer = none) (h3 : m.pc < m.code.size) (h4 : m.code.getD m.pc 0 = 16) (h5 : ¬ m.pos < m.lim) :
    m.step = { m with seen := m.seen.add 16, answer := some false } := by
  obtain ⟨code, text, lim, start, lastStart, wholeText, mustAdvance, pc, pos, handed, outermost, marks, lastmark, lastindex, loops, inner, frames, weight, answer, seen, outcome⟩ := m
  simp only at h1 h2 h3 h4 h5
  subst h1; subst h2
  unfold M.step
  simp only [Option.isSome_none, Bool.false_eq_true, if_false, h3, if_true]
  unfold M.exec
  simp (iota := false) only [M.word, Nat.add_zero, h4]
  have e : ops[16]? = some .LITERAL := rfl
  rw [e]
  simp only [ge_iff_le, Nat.not_lt.mp h5, if_true]
  rfl

section
variable (text : Array Nat) (lim s : Nat) (first : Bool) (handed : Nat) (seen : Seen)
theorem b_yes (pc : Nat) {pos : Nat} {out : Bool} {fr : List Sre.Frame} {wt : Nat} (h3 : pc < code2.size) (h4 : code2.getD pc 0 = 16) (h5 : pos < lim) (h6 : text.getD pos 0 = code2.getD (pc + 1) 0) :
    (B text lim s first pc pos out fr wt none handed seen).step = B text lim s first (pc + 2) (pos + 1) out fr wt none handed (seen.add 16) := by
  rw [lit_step _ rfl rfl h3 h4 h5]
  show (if (text.getD pos 0 == code2.getD (pc + 1) 0) = true then _ else _) = _
  rw [if_pos (by rw [h6]; exact beq_self_eq_true _)]; rfl
theorem b_no (pc : Nat) {pos : Nat} {out : Bool} {fr : List Sre.Frame} {wt : Nat} (h3 : pc < code2.size) (h4 : code2.getD pc 0 = 16) (h6 : pos < lim → text.getD pos 0 ≠ code2.getD (pc + 1) 0) :
    (B text lim s first pc pos out fr wt none handed seen).step = B text lim s first pc pos out fr wt (some false) handed (seen.add 16) := by
  by_cases h5 : pos < lim
  · rw [lit_step _ rfl rfl h3 h4 h5]
    show (if (text.getD pos 0 == code2.getD (pc + 1) 0) = true then _ else _) = _
    rw [if_neg (by simpa using h6 h5)]; rfl
  · rw [lit_over _ rfl rfl h3 h4 h5]; rfl
theorem b_branch : (B text lim s first 10 s first [F0 s first] 1 none handed seen).step = B text lim s first 12 s first [F1 s first 11, F0 s first] 2 none s (seen.add 7) := rfl
theorem b_alt1 {pc pos : Nat} : (B text lim s first pc pos first [F1 s first 11, F0 s first] 2 (some false) handed seen).step = B text lim s first 19 s first [F1 s first 18, F0 s first] 2 none s seen := rfl
theorem b_alt2 {pc pos : Nat} : (B text lim s first pc pos first [F1 s first 18, F0 s first] 2 (some false) handed seen).step = B text lim s first 24 s first [F1 s first 23, F0 s first] 2 none s seen := rfl
theorem b_jump16 {pos : Nat} {fr : List Sre.Frame} : (B text lim s first 16 pos first fr 2 none handed seen).step = B text lim s first 35 pos first fr 2 none handed (seen.add 15) := rfl
theorem b_jump21 {pos : Nat} {fr : List Sre.Frame} : (B text lim s first 21 pos first fr 2 none handed seen).step = B text lim s first 35 pos first fr 2 none handed (seen.add 15) := rfl
theorem b_jump32 {pos : Nat} {fr : List Sre.Frame} : (B text lim s first 32 pos first fr 2 none handed seen).step = B text lim s first 35 pos first fr 2 none handed (seen.add 15) := rfl
theorem b_succ {pos : Nat} {fr : List Sre.Frame} {wt : Nat} : (B text lim s first 35 pos first fr wt none handed seen).step = B text lim s first 35 pos first fr wt (some true) pos (seen.add 1) := by
  cases first <;> rfl
theorem b_won {pc pos alt : Nat} : Mine.Tells (it 3 (B text lim s first pc pos first [F1 s first alt, F0 s first] 2 (some true) handed seen)) (some (s, handed)) := ⟨rfl, rfl, rfl⟩
theorem b_not {fr : List Sre.Frame} : (B text lim s first 26 (s + 1) first fr 2 none handed seen).step = B text lim s first 29 (s + 1) false (F2 s first :: fr) 3 none (s + 1) (seen.add 5) := rfl
theorem b_notNo {pc pos : Nat} {fr : List Sre.Frame} : (B text lim s first pc pos false (F2 s first :: fr) 3 (some false) handed seen).step = B text lim s first 32 (s + 1) first fr 2 none handed seen := rfl
end

/-- the end of a row's end at s -/
noncomputable def end2 (text : Array Nat) (lim s : Nat) : Nat := if text.getD s 0 = 13 ∧ s + 1 < lim ∧ text.getD (s + 1) 0 = 10 then s + 2 else s + 1

theorem b_run (text : Array Nat) (lim s : Nat) (first : Bool) (handed : Nat) (seen : Seen) (hs : s < lim) (hc : text.getD s 0 = 13 ∨ text.getD s 0 = 10) :
    ∃ N, N ≤ 20 ∧ Tells (it N (B text lim s first 10 s first [F0 s first] 1 none handed seen)) (some (s, end2 text lim s)) := by
  unfold end2
  by_cases h13 : text.getD s 0 = 13
  · by_cases h2 : s + 1 < lim ∧ text.getD (s + 1) 0 = 10
    · rw [if_pos ⟨h13, h2⟩]
      refine ⟨8, by omega, ?_⟩
      show Tells (it 3 (M.step (M.step (M.step (M.step (M.step _)))))) _
      rw [b_branch, b_yes text lim s first _ _ 12 (by decide) rfl hs h13, b_yes text lim s first _ _ 14 (by decide) rfl h2.1 h2.2, b_jump16, b_succ]
      exact b_won ..
    · rw [if_neg (fun c => h2 c.2)]
      have hne : s + 1 < lim → text.getD (s + 1) 0 ≠ 10 := fun a b => h2 ⟨a, b⟩
      refine ⟨15, by omega, ?_⟩
      show Tells (it 3 (M.step (M.step (M.step (M.step (M.step (M.step (M.step (M.step (M.step (M.step (M.step (M.step _))))))))))))) _
      rw [b_branch, b_yes text lim s first _ _ 12 (by decide) rfl hs h13, b_no text lim s first _ _ 14 (by decide) rfl hne, b_alt1, b_no text lim s first _ _ 19 (by decide) rfl (fun _ => by rw [h13]; decide), b_alt2,
        b_yes text lim s first _ _ 24 (by decide) rfl hs h13, b_not, b_no text lim s first _ _ 29 (by decide) rfl hne, b_notNo, b_jump32, b_succ]
      exact b_won ..
  · have h10 : text.getD s 0 = 10 := hc.resolve_left h13
    rw [if_neg (fun c => h13 c.1)]
    refine ⟨9, by omega, ?_⟩
    show Tells (it 3 (M.step (M.step (M.step (M.step (M.step (M.step _))))))) _
    rw [b_branch, b_no text lim s first _ _ 12 (by decide) rfl (fun _ => by rw [h10]; decide), b_alt1, b_yes text lim s first _ _ 19 (by decide) rfl hs h10, b_jump21, b_succ]
    exact b_won ..

noncomputable def find2 (text : Array Nat) (lim : Nat) : Nat → Nat → Option (Nat × Nat)
  | 0, _ => none
  | d + 1, p => if text.getD p 0 = 13 ∨ text.getD p 0 = 10 then some (p, end2 text lim p) else find2 text lim d (p + 1)

theorem inset2 (c : Nat) (seen : Seen) : ∃ sn, inSet code2 c 36 5 true seen = .ok (decide (c = 13 ∨ c = 10), sn) := by
  show ∃ sn, (if c == 10 then Except.ok (true, _) else if c == 13 then Except.ok (true, _) else Except.ok (false, _)) = _
  by_cases h1 : c = 10
  · subst h1; exact ⟨_, rfl⟩
  · by_cases h2 : c = 13
    · subst h2; exact ⟨_, rfl⟩
    · simp [h1, h2]

theorem adm_run (m : M) (hcode : m.code = code2) : ∀ (d p fuel : Nat) (seen : Seen), p + d = m.lim → d < fuel → ∃ sn, M.admitted m fuel p seen = .ok ((find2 m.text m.lim d p).map (·.1), sn) := by
  intro d
  induction d with
  | zero =>
    intro p fuel seen h hf
    obtain ⟨f, rfl⟩ : ∃ f, fuel = f + 1 := ⟨fuel - 1, by omega⟩
    refine ⟨seen, ?_⟩
    unfold M.admitted
    rw [if_pos (by omega)]; rfl
  | succ d ih =>
    intro p fuel seen h hf
    obtain ⟨f, rfl⟩ : ∃ f, fuel = f + 1 := ⟨fuel - 1, by omega⟩
    unfold M.admitted
    rw [if_neg (by omega)]
    obtain ⟨sn, e⟩ := inset2 (m.text.getD p 0) seen
    have e' : inSet m.code (m.text.getD p 0) m.code.size 5 true seen = .ok (decide (m.text.getD p 0 = 13 ∨ m.text.getD p 0 = 10), sn) := by rw [hcode]; exact e
    rw [e']
    by_cases hh : m.text.getD p 0 = 13 ∨ m.text.getD p 0 = 10
    · refine ⟨sn, ?_⟩
      simp only [decide_eq_true hh, find2, if_pos hh, Option.map_some]
    · simp only [decide_eq_false hh, find2, if_neg hh]
      exact ih (p + 1) f sn (by omega) (by omega)
theorem find2_spec (text : Array Nat) (lim : Nat) : ∀ (d p : Nat), p + d = lim → ∀ a b, find2 text lim d p = some (a, b) → p ≤ a ∧ a < lim ∧ (text.getD a 0 = 13 ∨ text.getD a 0 = 10) ∧ b = end2 text lim a := by
  intro d
  induction d with
  | zero => intro p _ a b h; cases h
  | succ d ih =>
    intro p hp a b h
    unfold find2 at h
    split at h
    · rename_i hc; cases h; exact ⟨Nat.le_refl _, by omega, hc, rfl⟩
    · have := ih (p + 1) (by omega) a b h
      exact ⟨by omega, this.2⟩
theorem search2 (text : Array Nat) (pos lim : Nat) (must : Bool) (h : pos ≤ lim) : ∃ N, N ≤ 20 ∧ Tells (it N (forSearch code2 text 0 pos lim must)) (find2 text lim (lim - pos) pos) := by
  by_cases hp : pos = lim
  · subst hp
    refine ⟨1, by omega, ?_⟩
    rw [Nat.sub_self]
    show (M.step (if (decide (pos > pos) || decide (pos - pos < 1)) = true then _ else _)).outcome = _
    rw [if_pos (by simp)]
    rfl
  · let m0 : M := { code := code2, text, lim, start := pos, lastStart := lim, pc := 10, pos, handed := pos, marks := #[], mustAdvance := must, seen := ({} : Seen).add 14 }
    have e : forSearch code2 text 0 pos lim must = (match M.admitted m0 (lim + 1 - pos) pos (({} : Seen).add 14) with
        | .ok (some s, seen) => ({ m0 with mustAdvance := false, seen } : M).attemptAt s true
        | .ok (none, seen) => ({ m0 with seen } : M).say false
        | .error why => m0.stick why) := by
      show (if (decide (pos > lim) || decide (lim - pos < 1)) = true then _ else _) = _
      rw [if_neg (by simp; omega)]
      rfl
    obtain ⟨sn, ea⟩ := adm_run m0 rfl (lim - pos) pos (lim + 1 - pos) (({} : Seen).add 14) (by show pos + (lim - pos) = lim; omega) (by omega)
    rw [e, ea]
    cases hf : find2 m0.text m0.lim (lim - pos) pos with
    | none =>
      refine ⟨1, by omega, ?_⟩
      have hf' : find2 text lim (lim - pos) pos = none := hf
      rfl
    | some ab =>
      obtain ⟨a, b⟩ := ab
      have hf' : find2 text lim (lim - pos) pos = some (a, b) := hf
      obtain ⟨h1, h2, h3, h4⟩ := find2_spec text lim (lim - pos) pos (by omega) a b hf'
      obtain ⟨N, hN, hT⟩ := b_run text lim a true a sn h2 h3
      refine ⟨N, hN, ?_⟩
      rw [h4]
      exact hT
end Mine
end
section
open PySem PySem.Sre PySem.Builtin.Re PyProof.Rows
set_option maxRecDepth 100000
namespace Mine
section
variable {α : Type} {M : Model} {A : Around} {E : Value → Shared → Prop} {s : Shared} {Q : α → Shared → Prop}
theorem x_pure {a : α} (h : Q a s) : wpAny M A (.pure a) Q E s := fun _ _ _ => h
theorem x_rule {t : String} {k : Unit → Sem α} (h : wpAny M A (k ()) Q E s) : wpAny M A (.rule t k) Q E s := fun Γ p hΓ => h Γ p hΓ
theorem x_load {a : Addr} {pt : Option Value} {o : Obj} {k : Obj → Sem α} (ho : s.heap.get? a = some o) (h : wpAny M A (k o) Q E s) : wpAny M A (.load a pt k) Q E s := fun Γ p hΓ => ⟨o, ho, h Γ p hΓ⟩
theorem x_fresh {k : Tok → Sem α} (h : wpAny M A (k s.toks) Q E { s with toks := s.toks + 1 }) : wpAny M A (.fresh k) Q E s := fun Γ p hΓ => h Γ p hΓ
theorem x_eq {t t' : Sem α} (e : t = t') (h : wpAny M A t' Q E s) : wpAny M A t Q E s := e ▸ h
end

theorem slot_sub : Slot "re.Pattern" "sub" "re.Pattern.sub" :=
  .of (owner := "re.Pattern") (n := "sub") (by rw [typeLookup_type, builtinLookup_eq_fast]; kernel_rfl) (by decide +kernel) (by decide +kernel) (by decide +kernel)
    (by first | exact .inl (by decide +kernel) | exact .inr (by decide +kernel)) (by rw [isSubtype_type]; kernel_rfl)
theorem entry_sub : entryFor table "re.Pattern.sub" = some Builtin.«re.Pattern.sub» := entryFor_of_fast (by kernel_rfl)
theorem entry_sub_loop : entryFor table "re.Pattern.sub.loop" = some Builtin.«re.Pattern.sub.loop» := entryFor_of_fast (by kernel_rfl)
theorem plain_sub_loop : plainId "re.Pattern.sub.loop" = true := by decide +kernel
theorem args_sub (a b c : Value) : argsOk "re.Pattern.sub" ⟨[a, b, c], []⟩ := by unfold argsOk; kernel_rfl
theorem pat_getattribute : typeLookup (.type "re.Pattern") "__getattribute__" = pure (some (.builtin "object.__getattribute__")) := by rw [typeLookup_type, builtinLookup_eq_fast]; kernel_rfl
theorem pat_canon : (Manifest.canonical "object.__getattribute__" != "object.__getattribute__") = false := by decide +kernel
theorem pat_getattr_none : typeLookup (.type "re.Pattern") "__getattr__" = pure none := by rw [typeLookup_type, builtinLookup_eq_fast]; kernel_rfl
theorem pat_type_sub : typeOf (.builtin "re.Pattern.sub") = pure (.type "method_descriptor") := by show builtinType _ = _; rw [builtinType_eq_fast]; kernel_rfl
theorem str_call_none : typeLookup (.type "str") "__call__" = pure none := by rw [typeLookup_type, builtinLookup_eq_fast]; kernel_rfl
end Mine
end
section
open PySem PySem.Sre PySem.Builtin.Re PyProof.Rows
set_option maxRecDepth 100000
namespace Mine

theorem wp_drive {M : Model} {A : Around} {E : Value → Shared → Prop} {s : Shared} {Q : Sre.M → Shared → Prop} : ∀ (turns N : Nat) (m : Sre.M), N < 4 * turns → (it N m).outcome.isSome = true → Q (it N m) s → wpAny M A (reDrive turns m) Q E s
  | 0, N, m, h, _, _ => absurd h (by omega)
  | turns + 1, N, m, h, ho, hq => by
    unfold reDrive
    rw [runFor_it]
    show wpAny M A (if (it 4 m).outcome.isSome = true then pure (it 4 m) else _) Q E s
    by_cases h4 : (it 4 m).outcome.isSome = true
    · rw [if_pos h4]
      have e : it N m = it 4 m := by
        by_cases hN : 4 ≤ N
        · obtain ⟨k, rfl⟩ := Nat.exists_eq_add_of_le hN
          rw [it_add, it_done h4]
        · obtain ⟨k, hk⟩ := Nat.exists_eq_add_of_le (Nat.le_of_lt (Nat.not_le.mp hN))
          rw [hk, it_add, it_done ho]
      rw [← e]
      exact wpAny_pure hq
    · rw [if_neg h4]
      have hN : 4 ≤ N := by
        apply Nat.le_of_not_lt
        intro hN
        obtain ⟨k, hk⟩ := Nat.exists_eq_add_of_le (Nat.le_of_lt hN)
        apply h4
        rw [hk, it_add, it_done ho]; exact ho
      obtain ⟨k, rfl⟩ := Nat.exists_eq_add_of_le hN
      rw [it_add] at ho hq
      exact wpAny_bind (wpAny_rule (wp_drive turns k (it 4 m) (by omega) ho hq))

theorem wp_rules {M : Model} {A : Around} {E : Value → Shared → Prop} {s : Shared} {Q : PUnit → Shared → Prop} (c : Nat → Bool) (f : Nat → String) (hq : Q ⟨⟩ s) :
    ∀ (l : List Nat), wpAny M A (forIn l PUnit.unit fun i _ => (if c i = true then rule (f i) >>= fun _ => pure (ForInStep.yield PUnit.unit) else pure (ForInStep.yield PUnit.unit) : Sem (ForInStep PUnit))) Q E s
  | [] => wpAny_pure hq
  | i :: r => by
    rw [List.forIn_cons]
    refine wpAny_bind ?_
    cases hc : c i
    · simp only [Bool.false_eq_true, if_false]
      exact wpAny_pure (wp_rules c f hq r)
    · simp only [if_true]
      exact wpAny_bind (wpAny_rule (wpAny_pure (wp_rules c f hq r)))

noncomputable def OnFound (Q : Option Sre.M → Shared → Prop) (s : Shared) : Option (Nat × Nat) → Prop
  | none => Q none s
  | some (a, b) => ∀ m' : Sre.M, m'.start = a → m'.handed = b → Q (some m') s
theorem wp_runToEnd {M : Model} {A : Around} {E : Value → Shared → Prop} {s : Shared} {Q : Option Sre.M → Shared → Prop} {m : Sre.M} {N : Nat} {r : Option (Nat × Nat)} (hN : N < 2 ^ 60) (hT : Tells (it N m) r)
    (hq : OnFound Q s r) : wpAny M A (reRunToEnd m) Q E s := by
  unfold reRunToEnd
  have ho : (it N m).outcome.isSome = true := by
    cases r with
    | none => rw [show (it N m).outcome = some .failed from hT]; rfl
    | some ab => rw [show (it N m).outcome = some .matched from hT.1]; rfl
  refine wpAny_bind (wp_drive (2 ^ 64) N m (Nat.lt_of_lt_of_le hN (by decide)) ho ?_)
  refine wpAny_bind ?_
  refine wp_rules (fun i => (it N m).seen.has i) (fun i => Sre.names.getD i "") ?_ _
  cases r with
  | none =>
    rw [show (it N m).outcome = some .failed from hT]
    exact wpAny_pure hq
  | some ab =>
    rw [show (it N m).outcome = some .matched from hT.1]
    exact wpAny_pure (hq _ hT.2.1 hT.2.2)

/-- a pattern of the text's, as it lies -/
structure IsPat (h : Heap) (P C : Addr) (code : Array Nat) : Prop where
  p : ∃ f0 f1 f3 f4, h.get? P = some { cls := .type "re.Pattern", data := .fields #[f0, f1, .int 0 0, f3, f4, .ref C, .int 0 0] }
  c : h.get? C = some { cls := .type "tuple", data := .seq (code.map fun (n : Nat) => Value.int (n : Int) 0) 0 }
theorem IsPat.keeps {h h' : Heap} {P C : Addr} {code : Array Nat} (x : IsPat h P C code) (k : ∀ b o, h.get? b = some o → h'.get? b = some o) : IsPat h' P C code :=
  ⟨let ⟨a, b, c, d, e⟩ := x.p; ⟨a, b, c, d, k _ _ e⟩, k _ _ x.c⟩
theorem raw_code (code : Array Nat) : ((code.map fun (n : Nat) => Value.int (n : Int) 0).map reRawOf).map (·.toNat) = code := by
  rw [Array.map_map, Array.map_map]
  have : ((fun (x : Int) => x.toNat) ∘ reRawOf) ∘ (fun (n : Nat) => Value.int (n : Int) 0) = id := by
    funext n; show (n : Int).toNat = n; exact Int.toNat_natCast n
  rw [this, Array.map_id]

noncomputable def tgt (P : Addr) (x : Str) (tx : Tok) (code : Array Nat) : ReTarget := { pattern := .ref P, string := .str x tx, code, text := x.cps, kind := 0, groups := 0, pos := 0, lim := x.cps.size }

theorem wp_target {M : Model} {A : Around} {E : Value → Shared → Prop} {s : Shared} {Q : ReTarget → Shared → Prop} {P C : Addr} {code : Array Nat} {x : Str} {tx : Tok} (hp : IsPat s.heap P C code) (hq : Q (tgt P x tx code) s) :
    wpAny M A (reWholeTarget (.ref P) (.str x tx)) Q E s := by
  obtain ⟨f0, f1, f3, f4, hP⟩ := hp.p
  unfold reWholeTarget
  refine wpAny_bind (wpAny_fieldsOf hP rfl ?_)
  refine x_eq (t' := reRawItems (.ref C) >>= fun it => pure { pattern := .ref P, string := .str x tx, code := it.map (·.toNat), text := x.cps, kind := 0, groups := 0, pos := 0, lim := x.cps.size }) rfl ?_
  refine wpAny_bind ?_
  refine x_load hp.c ?_
  refine x_pure ?_
  refine wpAny_pure ?_
  show Q { pattern := .ref P, string := .str x tx, code := ((code.map fun (n : Nat) => Value.int (n : Int) 0).map reRawOf).map (·.toNat), text := x.cps, kind := 0, groups := 0, pos := 0, lim := x.cps.size } s
  rw [raw_code]; exact hq
end Mine
end
section
open PySem PySem.Sre PySem.Builtin.Re PyProof.Rows
set_option maxRecDepth 100000
namespace Mine

noncomputable def pieces (text : Array Nat) (lim : Nat) (repl : Str) (fnd : Nat → Option (Nat × Nat)) : Nat → Nat → List Str
  | 0, _ => []
  | d + 1, p => match fnd p with
    | none => if p < lim then [⟨text.extract p lim⟩] else []
    | some (a, b) => (if p < a then [⟨text.extract p a⟩] else []) ++ repl :: pieces text lim repl fnd d b

theorem strsAre_push {vs : Array Value} {ys : List Str} (h : StrsAre vs.toList ys) (y : Str) (t : Tok) : StrsAre (vs.push (.str y t)).toList (ys ++ [y]) := by
  rw [Array.toList_push]
  generalize vs.toList = l at h
  induction h with
  | nil => exact .cons _ _ .nil
  | cons z u _ ih => exact .cons _ _ ih

theorem strsAre_len {vs : List Value} {ys : List Str} (h : StrsAre vs ys) : vs.length = ys.length := by
  induction h with
  | nil => rfl
  | cons _ _ _ ih => simp [ih]

/-- one more onto the list of pieces -/
theorem wp_push {M : Model} {A : Around} {E : Value → Shared → Prop} {s : Shared} {Q : Unit → Shared → Prop} {D : Addr} {vs : Array Value} {v : Value} (hl : s.heap.IsList D vs) (hz : vs.size ≤ sizeLine)
    (h : ∀ h', h'.IsList D (vs.push v) → (∀ b o, b ≠ D → s.heap.get? b = some o → h'.get? b = some o) → Q () { s with heap := h' }) : wpAny M A (updateSeq D (·.push v)) Q E s := by
  obtain ⟨o, ho, hc, n, hd⟩ := hl
  refine wpAny_updateSeq ho hd (h _ ?_ ?_) hz (by simp; omega)
  · obtain ⟨c, dd, dt, sl⟩ := o
    simp only at hc hd; subst hc; subst hd
    refine ⟨_, Heap.get?_update_self _ ho rfl, rfl, _, rfl⟩
  · intro b o' hb hb'
    rw [Heap.get?_update_ne _ _ _ _ hb]; exact hb'

theorem extract_nil (a : Array Nat) : (⟨a.extract 0 0⟩ : Str) = Str.empty := by
  show Str.mk _ = Str.mk _
  simp

noncomputable def fin2 (x : Str) (D : Addr) : Sem PySem.Fin := do
  let joiner ← reSlice x.cps 0 0 0
  let its ← seqItems? (.ref D)
  if (its.getD #[]).isEmpty = true then (do let text ← pure joiner; ret text) else (do
    let text ← call (.builtin "str.join") [joiner, .ref D]
    ret text)

section
variable {prog : Program} {w : World} {A : Around} {R : Result → Shared → Prop} {x r : Str} {tx tr : Tok} {code : Array Nat} {P C D : Addr} {fnd : Nat → Option (Nat × Nat)}

theorem wp_slice {M : Model} {A : Around} {E : Value → Shared → Prop} {s : Shared} {Q : Value → Shared → Prop} {text : Array Nat} {b e : Nat} (hx : text.size ≤ 1048576) (hq : Q (.str ⟨text.extract b e⟩ s.toks) { s with toks := s.toks + 1 }) :
    wpAny M A (reSlice text 0 b e) Q E s := by
  refine x_eq (t' := mkStr ⟨text.extract b e⟩) rfl ?_
  refine wpAny_mkStr hq ?_
  show (text.extract b e).size ≤ sizeLine
  have hsz : sizeLine = 16777216 := by decide
  rw [Array.size_extract]; omega

theorem join_end {E : Value → Shared → Prop} {s : Shared} {vs : Array Value} {ys : List Str} {Q : PySem.Fin → Shared → Prop} (hx : x.cps.size ≤ 1048576) (hl : s.heap.IsList D vs) (hys : StrsAre vs.toList ys) (hsum : (ys.map (·.length)).sum ≤ 16777216)
    (hq : ∀ t tk', Q (.done (.ret (.str (Txt.join Str.empty ys) t))) { s with toks := tk' }) : wpAny (model prog w) A (fin2 x D) Q E s := by
  unfold fin2
  refine wpAny_bind (wp_slice hx ?_)
  rw [extract_nil]
  obtain ⟨⟨c, dd, dt, sl⟩, ho, hc, n, hd⟩ := id hl
  simp only at hd; subst hd
  refine wpAny_bind ?_
  refine x_load ho ?_
  refine x_pure ?_
  show wpAny _ _ (if vs.isEmpty = true then _ else _) Q E _
  by_cases he : vs.isEmpty = true
  · rw [if_pos he]
    have hnil : ys = [] := by
      have := strsAre_len hys
      rw [Array.isEmpty_iff] at he
      subst he
      exact List.length_eq_zero_iff.mp this.symm
    subst hnil
    exact wpAny_bind (wpAny_pure (wpAny_pure (hq _ _)))
  · rw [if_neg he]
    refine wpAny_bind (join_list hl hys ?_ fun t k => ?_)
    · show _ + ys.length * 0 ≤ _
      omega
    · exact wpAny_pure (hq _ _)

theorem sum_app (ys zs : List Str) : ((ys ++ zs).map (·.length)).sum = (ys.map (·.length)).sum + (zs.map (·.length)).sum := by
  rw [List.map_append, List.sum_append]

theorem sub_loop (hfnd : ∀ p, p ≤ x.cps.size → ∀ must, ∃ N, N < 2 ^ 60 ∧ Tells (it N (forSearch code x.cps 0 p x.cps.size must)) (fnd p))
    (hab : ∀ p a b, p ≤ x.cps.size → fnd p = some (a, b) → p ≤ a ∧ a < b ∧ b ≤ x.cps.size) (hr : r.length ≤ 2) (hx : x.cps.size ≤ 1048576) (hPD : P ≠ D) (hCD : C ≠ D) :
    ∀ (d p : Nat) (n : Int) (must : Bool) (vs : Array Value) (ys : List Str) (s : Shared), p ≤ x.cps.size → x.cps.size - p < d → IsPat s.heap P C code → s.heap.IsList D vs → StrsAre vs.toList ys →
      ys.length ≤ 2 * p → (ys.map (·.length)).sum ≤ 3 * p →
      (∀ t h' tk', (∀ b o, b ≠ D → s.heap.get? b = some o → h'.get? b = some o) → R (.ok (.ret (.str (Txt.join Str.empty (ys ++ pieces x.cps x.cps.size r fnd d p)) t))) { s with heap := h', toks := tk' }) →
      codeAny (model prog w) A (.builtin "re.Pattern.sub.loop" ⟨[.ref P, .str x tx, .str r tr, rawInt 0, rawInt 0, rawInt n, rawInt (p : Int), rawInt (p : Int), .bool must, .ref D, .bool false], []⟩) R s := by
  intro d
  induction d with
  | zero => intro p n must vs ys s _ h; exact absurd h (Nat.not_lt_zero _)
  | succ d ih =>
    intro p n must vs ys s hp hd hpat hl hys hlen hsum hR
    refine codeAny_builtin entry_sub_loop ?_
    rw [Around.under_plainId plain_sub_loop]
    have hvs : vs.size = ys.length := by rw [← Array.length_toList]; exact strsAre_len hys
    have hsz : sizeLine = 16777216 := by decide
    unfold Builtin.«re.Pattern.sub.loop»
    refine wpAny_bind (wp_target hpat ?_)
    obtain ⟨N, hN, hT⟩ := hfnd p hp must
    refine x_eq (t' := reNextFound (tgt P x tx code) ((p : Int).toNat) must >>= _) rfl ?_
    rw [Int.toNat_natCast]
    refine wpAny_bind (wp_runToEnd hN hT ?_)
    unfold pieces at hR
    clear hT
    generalize hf : fnd p = fp at hR ⊢
    cases fp with
    | none =>
      show wpAny _ _ _ _ _ _
      dsimp only at hR
      by_cases hlt : p < x.cps.size
      · rw [if_pos hlt] at hR
        refine x_eq (t' := if p < x.cps.size then (do let v ← reSlice x.cps 0 p x.cps.size; updateSeq D (·.push v); fin2 x D) else fin2 x D) rfl ?_
        rw [if_pos hlt]
        refine wpAny_bind (wp_slice hx ?_)
        refine wpAny_bind (wp_push (s := { s with toks := s.toks + 1 }) hl (by omega) fun h' hl' hk' => ?_)
        refine join_end hx hl' (strsAre_push hys _ _) ?_ ?_
        · rw [sum_app]
          show _ + ((x.cps.extract p x.cps.size).size + 0) ≤ _
          rw [Array.size_extract]; omega
        · intro t tk'
          exact hR t h' tk' hk'
      · rw [if_neg hlt] at hR
        refine x_eq (t' := if p < x.cps.size then (do let v ← reSlice x.cps 0 p x.cps.size; updateSeq D (·.push v); fin2 x D) else fin2 x D) rfl ?_
        rw [if_neg hlt]
        refine join_end hx hl hys (by omega) ?_
        intro t tk'
        rw [List.append_nil] at hR
        exact hR t s.heap tk' fun _ _ _ e => e
    | some ab =>
      obtain ⟨a, b⟩ := ab
      obtain ⟨h1, h2, h3⟩ := hab p a b hp hf
      dsimp only at hR
      intro m' hm1 hm2
      let go : Sem PySem.Fin := again (.builtin "re.Pattern.sub.loop" ⟨[.ref P, .str x tx, .str r tr, rawInt 0, rawInt 0, rawInt (n + 1), rawInt (m'.handed : Int), rawInt (m'.handed : Int), .bool (m'.handed == m'.start), .ref D, .bool false], []⟩)
      refine x_eq (t' := if p < m'.start then (do let v ← reSlice x.cps 0 p m'.start; updateSeq D (·.push v); updateSeq D (·.push (.str r tr)); go) else (do updateSeq D (·.push (.str r tr)); go)) rfl ?_
      have hgo : ∀ (vs' : Array Value) (ys' : List Str) (h' : Heap) (tk' : Nat), (∀ b o, b ≠ D → s.heap.get? b = some o → h'.get? b = some o) → h'.IsList D vs' → StrsAre vs'.toList ys' → ys'.length + 1 ≤ 2 * b → (ys'.map (·.length)).sum + 2 ≤ 3 * b →
          (∀ t h'' tk'', (∀ b o, b ≠ D → h'.get? b = some o → h''.get? b = some o) → R (.ok (.ret (.str (Txt.join Str.empty (ys' ++ r :: pieces x.cps x.cps.size r fnd d b)) t))) { s with heap := h'', toks := tk'' }) →
          wpAny (model prog w) A.in1 (do updateSeq D (·.push (.str r tr)); go) (fun fin s' => match fin with | .done f => R (.ok f) s' | .again c' => c'.quiet = true ∧ codeAny (model prog w) A c' R s') (fun e s' => R (.error e) s') { s with heap := h', toks := tk' } := by
        intro vs' ys' h' tk' hk' hl' hys' hlen' hsum' hR'
        have hvs' : vs'.size = ys'.length := by rw [← Array.length_toList]; exact strsAre_len hys'
        refine wpAny_bind (wp_push (s := { s with heap := h', toks := tk' }) hl' (by omega) fun h'' hl'' hk'' => ?_)
        refine wpAny_pure ⟨plainId_quiet plain_sub_loop _, ?_⟩
        rw [hm2]
        have hpat' : IsPat h'' P C code := by
          obtain ⟨f0, f1, f3, f4, e⟩ := hpat.p
          exact ⟨⟨f0, f1, f3, f4, hk'' _ _ hPD (hk' _ _ hPD e)⟩, hk'' _ _ hCD (hk' _ _ hCD hpat.c)⟩
        refine ih b (n + 1) _ _ (ys' ++ [r]) _ h3 (by omega) hpat' hl'' (strsAre_push hys' _ _) ?_ ?_ ?_
        · rw [List.length_append, List.length_singleton]; omega
        · rw [sum_app]; show _ + (r.length + 0) ≤ _; omega
        · intro t h3 tk3 hk3
          rw [List.append_assoc]
          exact hR' t h3 tk3 fun b o hb e => hk3 b o hb (hk'' b o hb e)
      by_cases hlt : p < a
      · rw [hm1, if_pos hlt]
        rw [if_pos hlt] at hR
        refine wpAny_bind (wp_slice hx ?_)
        refine wpAny_bind (wp_push (s := { s with toks := s.toks + 1 }) hl (by omega) fun h' hl' hk' => ?_)
        refine hgo _ (ys ++ [⟨x.cps.extract p a⟩]) h' _ hk' hl' (strsAre_push hys _ _) ?_ ?_ ?_
        · rw [List.length_append, List.length_singleton]; omega
        · rw [sum_app]
          show _ + ((x.cps.extract p a).size + 0) + 2 ≤ _
          rw [Array.size_extract]; omega
        · intro t h'' tk'' hk''
          rw [List.append_assoc]
          exact hR t h'' tk'' fun b o hb e => hk'' b o hb (hk' b o hb e)
      · rw [hm1, if_neg hlt]
        rw [if_neg hlt] at hR
        refine hgo vs ys s.heap s.toks (fun _ _ _ e => e) hl hys (by omega) (by omega) ?_
        intro t h'' tk'' hk''
        exact hR t h'' tk'' hk''
end
end Mine
end
section
open PySem PySem.Sre PySem.Builtin.Re PyProof.Rows
set_option maxRecDepth 100000
namespace Mine
section
variable {prog : Program} {w : World} {A : Around} {x r : Str} {tx tr : Tok} {code : Array Nat} {P C : Addr} {fnd : Nat → Option (Nat × Nat)} {Q E : Value → Shared → Prop} {s : Shared}

theorem getMethod_sub {M : Model} {pl : Sem Bool} {Q : Value × List Value → Shared → Prop} (hp : IsPat s.heap P C code)
    (h : Q (.builtin "re.Pattern.sub", [.ref P]) s) : wpAny M A (getMethod (.ref P) "sub" pl) Q E s := by
  obtain ⟨f0, f1, f3, f4, ho⟩ := hp.p
  have hT : s.TypeIs (.ref P) "re.Pattern" := ⟨_, ho, rfl⟩
  unfold getMethod
  refine wpAny_bind (wpAny_specialOf hT pat_getattribute ?_)
  show wpAny M A (if (Manifest.canonical "object.__getattribute__" != "object.__getattribute__") = true then _ else _) Q E s
  rw [pat_canon, if_neg Bool.false_ne_true]
  refine wpAny_bind (wpAny_specialOf hT pat_getattr_none ?_)
  refine wpAny_bind (wpAny_specialOf hT slot_sub.lookup ?_)
  refine wpAny_bind (wpAny_of_eq pat_type_sub ?_)
  refine wpAny_bind (wpAny_load ho ?_)
  exact wpAny_bind (wpAny_rule (wpAny_pure h))

theorem named_sub (a b : Value) : reNamed "re.Pattern.sub" "sub" ["repl", "string", "count"] 2 [a, b] [] = pure [some a, some b, none] := by
  unfold reNamed
  rfl
theorem call_sub (hp : IsPat s.heap P C code) (hfnd : ∀ p, p ≤ x.cps.size → ∀ must, ∃ N, N < 2 ^ 60 ∧ Tells (it N (forSearch code x.cps 0 p x.cps.size must)) (fnd p))
    (hab : ∀ p a b, p ≤ x.cps.size → fnd p = some (a, b) → p ≤ a ∧ a < b ∧ b ≤ x.cps.size) (hr : r.length ≤ 2) (h92 : r.cps.contains 92 = false) (hx : x.cps.size ≤ 1048576)
    (hq : ∀ t h' tk', (∀ b o, s.heap.get? b = some o → h'.get? b = some o) → Q (.str (Txt.join Str.empty (pieces x.cps x.cps.size r fnd (x.cps.size + 1) 0)) t) { s with heap := h', toks := tk' }) :
    wpAny (model prog w) A (call (.builtin "re.Pattern.sub") [.ref P, .str r tr, .str x tx]) Q E s := by
  obtain ⟨f0, f1, f3, f4, ho⟩ := hp.p
  refine wpAny_call (codeAny_call_builtin slot_sub.plain entry_sub (slot_sub.check _ _ _ _ _ _ _ _ ⟨_, ho, rfl⟩ (args_sub _ _ _) ?_))
  unfold Builtin.«re.Pattern.sub» reSubstitute
  refine wpAny_bind (m := reNamed "re.Pattern.sub" "sub" ["repl", "string", "count"] 2 [.str r tr, .str x tx] []) ?_
  rw [named_sub]
  refine wpAny_pure ?_
  refine wpAny_bind (m := pure (0 : Int)) (wpAny_pure ?_)
  refine wpAny_bind (m := specialOf (.str r tr) "__call__") ?_
  refine wpAny_specialOf (T := "str") (typeIs_str _ _ _) str_call_none ?_
  refine wpAny_bind (m := (pure (some r) : Sem (Option Str))) (wpAny_pure ?_)
  refine wpAny_bind (m := (pure (!r.cps.contains 92) : Sem Bool)) (wpAny_pure ?_)
  rw [h92]
  refine x_eq (t' := (do
      let _ ← reWholeTarget (.ref P) (.str x tx)
      let l ← newList []
      again (.builtin "re.Pattern.sub.loop" ⟨[.ref P, .str x tx, .str r tr, rawInt 0, rawInt 0, rawInt 0, rawInt 0, rawInt 0, .bool false, l, .bool false], []⟩))) rfl ?_
  refine wpAny_bind (wp_target hp ?_)
  refine wpAny_bind ?_
  refine wpAny_newObj_type ?_ (by show (#[] : Array Value).size ≤ sizeLine; decide)
  have hD : ∀ b o, s.heap.get? b = some o → b ≠ s.heap.objs.size := fun b o e => Nat.ne_of_lt (Heap.lt_size e)
  refine wpAny_pure ⟨plainId_quiet plain_sub_loop _, ?_⟩
  refine sub_loop (D := s.heap.objs.size) hfnd hab hr hx (hD _ _ ho) (hD _ _ hp.c) (x.cps.size + 1) 0 0 false #[] [] _ (Nat.zero_le _) (by omega) (hp.keeps fun b o e => Heap.get?_push_of_some _ e) ⟨_, Heap.get?_push_size _ rfl, rfl, _, rfl⟩ .nil (Nat.le_refl _) (Nat.le_refl _) ?_
  intro t h' tk' hk
  exact hq t h' tk' fun b o e => hk b o (hD b o e) (Heap.get?_push_of_some _ e)
end

/-- the text that the second pattern leaves: every end of a row becomes CR LF -/
noncomputable def crlfL : List Nat → List Nat
  | [] => []
  | c :: r => if c = 13 then (match r with | 10 :: r' => 13 :: 10 :: crlfL r' | r => 13 :: 10 :: crlfL r) else if c = 10 then 13 :: 10 :: crlfL r else c :: crlfL r
/-- the text that the first pattern leaves: a dot that opens a row becomes two -/
noncomputable def dotsL : Bool → List Nat → List Nat
  | _, [] => []
  | b, c :: r => if b = true ∧ c = 46 then 46 :: 46 :: dotsL false r else c :: dotsL (c == 10) r
end Mine
end
section
open PySem PySem.Sre PySem.Builtin.Re PyProof.Rows
set_option maxRecDepth 100000
namespace Mine

theorem join_cps (ys : List Str) : (Txt.join Str.empty ys).cps.toList = ys.flatMap (·.cps.toList) := by
  show (PySem.Builtin.Str.glued Str.empty ys).cps.toList = _
  rw [StrLaws.glued_eq_join]
  induction ys with
  | nil => rfl
  | cons y r ih =>
    cases r with
    | nil => simp [Str.join]
    | cons z r' =>
      show (y ++ Str.empty ++ Str.join Str.empty (z :: r')).cps.toList = _
      rw [List.flatMap_cons, ← ih]
      show ((y.cps ++ #[]) ++ _).toList = _
      simp

theorem getD_list (l : List Nat) (p : Nat) : l.toArray.getD p 0 = l.getD p 0 := by
  simp [Array.getD_eq_getD_getElem?, List.getD_eq_getElem?_getD]

theorem drop_cons {l : List Nat} {p : Nat} (h : p < l.length) : l.drop p = l.getD p 0 :: l.drop (p + 1) := by
  rw [List.drop_eq_getElem_cons h]
  congr 1
  simp [List.getD_eq_getElem?_getD, h]

theorem crlf_other (c : Nat) (r : List Nat) (h1 : c ≠ 13) (h2 : c ≠ 10) : crlfL (c :: r) = c :: crlfL r := by
  rw [crlfL.eq_def]; simp [h1, h2]
theorem crlf_lf (r : List Nat) : crlfL (10 :: r) = 13 :: 10 :: crlfL r := by
  rw [crlfL.eq_def]; simp
theorem crlf_crlf (r : List Nat) : crlfL (13 :: 10 :: r) = 13 :: 10 :: crlfL r := by
  rw [crlfL.eq_def]; simp
theorem crlf_cr (r : List Nat) (h : ∀ r', r ≠ 10 :: r') : crlfL (13 :: r) = 13 :: 10 :: crlfL r := by
  cases r with
  | nil => rfl
  | cons d r' =>
    have hd : d ≠ 10 := fun e => h r' (by rw [e])
    rw [crlfL.eq_def]
    simp [hd]

/-- the list between two places -/
theorem take_drop_succ {l : List Nat} {p a : Nat} (h : p < l.length) (ha : p < a) : (l.drop p).take (a - p) = l.getD p 0 :: (l.drop (p + 1)).take (a - (p + 1)) := by
  rw [drop_cons h]
  obtain ⟨k, rfl⟩ := Nat.exists_eq_add_of_lt ha
  rw [show p + k + 1 - p = k + 1 from by omega, show p + k + 1 - (p + 1) = k from by omega]
  rfl

theorem find2_le (l : List Nat) : ∀ (d p : Nat) (a b : Nat), p + d = l.length → find2 l.toArray l.length d p = some (a, b) → p ≤ a ∧ a < b ∧ b ≤ l.length := by
  intro d p a b hp h
  obtain ⟨h1, h2, _, h4⟩ := find2_spec _ _ d p hp a b h
  unfold end2 at h4
  split at h4
  · rename_i hc; omega
  · omega

theorem crlf_find (l : List Nat) : ∀ (d p : Nat), p + d = l.length →
    crlfL (l.drop p) = match find2 l.toArray l.length d p with
      | none => l.drop p
      | some (a, b) => (l.drop p).take (a - p) ++ 13 :: 10 :: crlfL (l.drop b) := by
  intro d
  induction d with
  | zero =>
    intro p hp
    rw [List.drop_eq_nil_of_le (by omega)]; rfl
  | succ d ih =>
    intro p hp
    have hlt : p < l.length := by omega
    unfold find2
    rw [getD_list]
    by_cases hc : l.getD p 0 = 13 ∨ l.getD p 0 = 10
    · rw [if_pos hc]
      dsimp only
      rw [Nat.sub_self, List.take_zero, List.nil_append]
      unfold end2
      rw [getD_list, getD_list, drop_cons hlt]
      by_cases h13 : l.getD p 0 = 13
      · rw [h13]
        by_cases h2 : p + 1 < l.length ∧ l.getD (p + 1) 0 = 10
        · rw [if_pos ⟨rfl, h2⟩, drop_cons h2.1, h2.2, crlf_crlf]
        · rw [if_neg (fun c => h2 c.2), crlf_cr]
          intro r' e
          apply h2
          have hl : p + 1 < l.length := by
            apply Nat.lt_of_not_le; intro hle
            rw [List.drop_eq_nil_of_le hle] at e; cases e
          rw [drop_cons hl] at e
          exact ⟨hl, (List.cons.inj e).1⟩
      · have h10 := hc.resolve_left h13
        rw [h10, if_neg (fun c => absurd c.1 (by decide)), crlf_lf]
    · rw [if_neg hc]
      have h1 : l.getD p 0 ≠ 13 := fun e => hc (.inl e)
      have h2 : l.getD p 0 ≠ 10 := fun e => hc (.inr e)
      rw [drop_cons hlt, crlf_other _ _ h1 h2, ih (p + 1) (by omega)]
      generalize hf : find2 l.toArray l.length d (p + 1) = fp
      cases fp with
      | none => rfl
      | some ab =>
        obtain ⟨a, b⟩ := ab
        have hle := find2_le l d (p + 1) a b (by omega) hf
        dsimp only
        rw [← drop_cons hlt, take_drop_succ hlt (by omega), List.cons_append]

theorem pieces2 (l : List Nat) : ∀ (d p : Nat), p ≤ l.length → l.length - p < d →
    (pieces l.toArray l.length ⟨#[13, 10]⟩ (fun p => find2 l.toArray l.length (l.length - p) p) d p).flatMap (·.cps.toList) = crlfL (l.drop p) := by
  intro d
  induction d with
  | zero => intro p _ h; omega
  | succ d ih =>
    intro p hp hd
    unfold pieces
    rw [crlf_find l (l.length - p) p (by omega)]
    generalize hf : find2 l.toArray l.length (l.length - p) p = fp
    cases fp with
    | none =>
      dsimp only
      split
      · simp [List.take_of_length_le]
      · rw [List.drop_eq_nil_of_le (by omega)]; rfl
    | some ab =>
      obtain ⟨a, b⟩ := ab
      have hle := find2_le l _ p a b (by omega) hf
      dsimp only
      rw [List.flatMap_append, List.flatMap_cons, ih b hle.2.2 (by omega)]
      split
      · simp
      · rw [show a - p = 0 from by omega]; simp

noncomputable def bol (l : List Nat) (p : Nat) : Bool := p == 0 || l.getD (p - 1) 0 == 10
theorem find1_le (l : List Nat) : ∀ (d p : Nat) (a b : Nat), p + d = l.length → find1 l.toArray d p = some (a, b) → p ≤ a ∧ a < l.length ∧ b = a + 1 ∧ l.getD a 0 = 46 := by
  intro d
  induction d with
  | zero => intro p a b _ h; cases h
  | succ d ih =>
    intro p a b hp h
    unfold find1 at h
    split at h
    · rename_i hh
      unfold hit1 at hh
      rw [Bool.and_eq_true, getD_list _ p] at hh
      cases h
      exact ⟨Nat.le_refl _, by omega, rfl, by simpa using hh.2⟩
    · have := ih (p + 1) a b (by omega) h
      exact ⟨by omega, this.2⟩
theorem dots_find (l : List Nat) : ∀ (d p : Nat), p + d = l.length →
    dotsL (bol l p) (l.drop p) = match find1 l.toArray d p with
      | none => l.drop p
      | some (a, b) => (l.drop p).take (a - p) ++ 46 :: 46 :: dotsL (bol l b) (l.drop b) := by
  intro d
  induction d with
  | zero =>
    intro p hp
    rw [List.drop_eq_nil_of_le (by omega)]
    cases bol l p <;> rfl
  | succ d ih =>
    intro p hp
    have hlt : p < l.length := by omega
    unfold find1
    have e : hit1 l.toArray p = (bol l p && l.getD p 0 == 46) := by
      unfold hit1 bol; rw [getD_list, getD_list]
    have hb1 : bol l (p + 1) = (l.getD p 0 == 10) := by
      unfold bol; simp
    rw [e, drop_cons hlt]
    by_cases hc : (bol l p && l.getD p 0 == 46) = true
    · rw [if_pos hc]
      dsimp only
      rw [Bool.and_eq_true] at hc
      have h46 : l.getD p 0 = 46 := by simpa using hc.2
      rw [Nat.sub_self, List.take_zero, List.nil_append, hc.1, hb1, h46]
      rfl
    · rw [if_neg hc]
      have e2 : dotsL (bol l p) (l.getD p 0 :: l.drop (p + 1)) = l.getD p 0 :: dotsL (l.getD p 0 == 10) (l.drop (p + 1)) := by
        show (if bol l p = true ∧ l.getD p 0 = 46 then _ else _) = _
        rw [if_neg (by simpa using hc)]
      rw [e2, ← hb1, ih (p + 1) (by omega)]
      generalize hf : find1 l.toArray d (p + 1) = fp
      cases fp with
      | none => rfl
      | some ab =>
        obtain ⟨a, b⟩ := ab
        have hle := find1_le l d (p + 1) a b (by omega) hf
        dsimp only
        rw [← drop_cons hlt, take_drop_succ hlt (by omega), List.cons_append]
theorem pieces1 (l : List Nat) : ∀ (d p : Nat), p ≤ l.length → l.length - p < d →
    (pieces l.toArray l.length ⟨#[46, 46]⟩ (fun p => find1 l.toArray (l.length - p) p) d p).flatMap (·.cps.toList) = dotsL (bol l p) (l.drop p) := by
  intro d
  induction d with
  | zero => intro p _ h; omega
  | succ d ih =>
    intro p hp hd
    unfold pieces
    rw [dots_find l (l.length - p) p (by omega)]
    generalize hf : find1 l.toArray (l.length - p) p = fp
    cases fp with
    | none =>
      dsimp only
      split
      · simp [List.take_of_length_le]
      · rw [List.drop_eq_nil_of_le (by omega)]; rfl
    | some ab =>
      obtain ⟨a, b⟩ := ab
      have hle := find1_le l _ p a b (by omega) hf
      dsimp only
      rw [List.flatMap_append, List.flatMap_cons, ih b (by omega) (by omega)]
      split
      · simp
      · rw [show a - p = 0 from by omega]; simp

noncomputable def crlf (x : Str) : Str := ⟨(crlfL x.cps.toList).toArray⟩
noncomputable def dots (x : Str) : Str := ⟨(dotsL true x.cps.toList).toArray⟩

theorem str_ext {x y : Str} (h : x.cps.toList = y.cps.toList) : x = y := by
  obtain ⟨⟨a⟩⟩ := x; obtain ⟨⟨b⟩⟩ := y
  simp only at h; subst h; rfl

theorem crlf_len : ∀ (n : Nat) (l : List Nat), l.length ≤ n → (crlfL l).length ≤ 2 * l.length := by
  intro n
  induction n with
  | zero => intro l h; rw [List.length_eq_zero_iff.mp (Nat.le_zero.mp h)]; exact Nat.le_refl _
  | succ n ih =>
    intro l h
    cases l with
    | nil => exact Nat.le_refl _
    | cons c r =>
      simp only [List.length_cons] at h ⊢
      by_cases h13 : c = 13
      · subst h13
        by_cases hr : ∃ r', r = 10 :: r'
        · obtain ⟨r', rfl⟩ := hr
          rw [crlf_crlf]
          simp only [List.length_cons] at h ⊢
          have := ih r' (by omega); omega
        · rw [crlf_cr _ fun r' e => hr ⟨r', e⟩]
          simp only [List.length_cons]
          have := ih r (by omega); omega
      · by_cases h10 : c = 10
        · subst h10
          rw [crlf_lf]
          simp only [List.length_cons]
          have := ih r (by omega); omega
        · rw [crlf_other _ _ h13 h10]
          simp only [List.length_cons]
          have := ih r (by omega); omega

section
variable {prog : Program} {w : World} {A : Around} {E Q : Value → Shared → Prop} {s : Shared} {x : Str} {tx tr : Tok} {h₀ : Heap} {L : Addr} {m : Str → Option Value} {news : List (Addr × Obj)} {P C : Addr}
theorem call_sub2 (F : Fr h₀ L s.heap m) (N : News h₀ L s.heap news) (hp : IsPat s.heap P C code2) (hx : x.length ≤ 524288)
    (hq : ∀ t h' tk', Fr h₀ L h' m → News h₀ L h' news → (crlf x).length ≤ 2 * x.length → Q (.str (crlf x) t) { s with heap := h', toks := tk' }) :
    wpAny (model prog w) A (call (.builtin "re.Pattern.sub") [.ref P, .str ⟨#[13, 10]⟩ tr, .str x tx]) Q E s := by
  obtain ⟨⟨l⟩⟩ := x
  have hx' : l.length ≤ 524288 := hx
  refine call_sub (fnd := fun p => find2 l.toArray l.length (l.length - p) p) hp ?_ ?_ (Nat.le_refl 2) (by decide +kernel) (by show l.length ≤ _; omega) ?_
  · intro p hle must
    obtain ⟨N, hN, hT⟩ := search2 l.toArray p l.length must hle
    exact ⟨N, Nat.lt_of_le_of_lt hN (by decide), hT⟩
  · intro p a b hle hf
    exact find2_le l (l.length - p) p a b (by have : p ≤ l.length := hle; omega) hf
  · intro t h' tk' hk
    have e : Txt.join Str.empty (pieces l.toArray l.length ⟨#[13, 10]⟩ (fun p => find2 l.toArray l.length (l.length - p) p) (l.length + 1) 0) = crlf ⟨⟨l⟩⟩ := by
      refine str_ext ?_
      rw [join_cps, pieces2 l _ 0 (Nat.zero_le _) (by omega)]
      rfl
    show Q (.str (Txt.join Str.empty (pieces l.toArray l.length ⟨#[13, 10]⟩ (fun p => find2 l.toArray l.length (l.length - p) p) (l.length + 1) 0)) t) _
    rw [e]
    exact hq t h' tk' (F.grownK hk) (N.grown hk) (crlf_len _ l (Nat.le_refl _))
theorem call_sub1 (F : Fr h₀ L s.heap m) (N : News h₀ L s.heap news) (hp : IsPat s.heap P C code1) (hx : x.length ≤ 1048576)
    (hq : ∀ t h' tk', Fr h₀ L h' m → News h₀ L h' news → Q (.str (dots x) t) { s with heap := h', toks := tk' }) :
    wpAny (model prog w) A (call (.builtin "re.Pattern.sub") [.ref P, .str ⟨#[46, 46]⟩ tr, .str x tx]) Q E s := by
  obtain ⟨⟨l⟩⟩ := x
  have hx' : l.length ≤ 1048576 := hx
  refine call_sub (fnd := fun p => find1 l.toArray (l.length - p) p) hp ?_ ?_ (Nat.le_refl 2) (by decide +kernel) hx' ?_
  · intro p hle must
    obtain ⟨N, hN, hT⟩ := search1 l.toArray p l.length must hle
    exact ⟨N, Nat.lt_of_le_of_lt hN (by have : (2 : Nat) ^ 60 = 1152921504606846976 := by decide
                                        omega), hT⟩
  · intro p a b hle hf
    have := find1_le l (l.length - p) p a b (by have : p ≤ l.length := hle; omega) hf
    show p ≤ a ∧ a < b ∧ b ≤ l.length
    omega
  · intro t h' tk' hk
    have e : Txt.join Str.empty (pieces l.toArray l.length ⟨#[46, 46]⟩ (fun p => find1 l.toArray (l.length - p) p) (l.length + 1) 0) = dots ⟨⟨l⟩⟩ := by
      refine str_ext ?_
      rw [join_cps, pieces1 l _ 0 (Nat.zero_le _) (by omega)]
      rfl
    show Q (.str (Txt.join Str.empty (pieces l.toArray l.length ⟨#[46, 46]⟩ (fun p => find1 l.toArray (l.length - p) p) (l.length + 1) 0)) t) _
    rw [e]
    exact hq t h' tk' (F.grownK hk) (N.grown hk)
end
end Mine
end
section
open PySem PySem.W PySem.Spec PySem.Calls PyProof.Rows
set_option maxRecDepth 100000
namespace Mine
open PySem.StrLaws PySem.Builtin.Str
/-! the mail that quotedata sends, cut into its rows -/
noncomputable def rowsL : List (List Nat) → List Nat
  | [] => []
  | [r] => r
  | r :: r' :: t => r ++ 13 :: 10 :: rowsL (r' :: t)
noncomputable abbrev sep2 : PySem.Str := ⟨#[13, 10]⟩
theorem at_sep {x : PySem.Str} {k : Nat} : At x sep2 x.length k ↔ (x.cps.toList.drop k).take 2 = [13, 10] := by
  unfold At
  rw [subAt_eq]
  show (k + 2 ≤ x.length ∧ ((x.cps.toList.drop k).take 2 == [13, 10]) = true) ↔ _
  constructor
  · exact fun h => eq_of_beq h.2
  · intro h
    refine ⟨?_, by rw [h]; rfl⟩
    have hl := congrArg List.length h
    simp only [List.length_take, List.length_drop, List.length_cons, List.length_nil] at hl
    have : x.length = x.cps.toList.length := rfl
    omega
theorem at_mem {x : PySem.Str} {k : Nat} (h : At x sep2 x.length k) : ∃ r, x.cps.toList.drop k = 13 :: 10 :: r := by
  rw [at_sep] at h
  cases hd : x.cps.toList.drop k with
  | nil => rw [hd] at h; cases h
  | cons c r =>
    rw [hd] at h
    cases r with
    | nil => simp at h
    | cons d r => simp at h; exact ⟨r, by rw [h.1, h.2]⟩
theorem parts_rows (x : PySem.Str) : ∀ (rs : List (List Nat)) (a : Nat) (cuts : List Nat) (f : Nat), rs ≠ [] → (∀ r ∈ rs, 13 ∉ r) → x.cps.toList.drop a = rowsL rs →
    ChainG x sep2 x.length a cuts f → (∀ k, f ≤ k → ¬ At x sep2 x.length k) → (partsFrom x 2 a cuts).map (fun p => p.cps.toList) = rs := by
  intro rs
  induction rs with
  | nil => intro a cuts f h; exact absurd rfl h
  | cons r t ih =>
    intro a cuts f _ h13 hx hG hn
    have hr := h13 r (.head _)
    cases t with
    | nil =>
      cases cuts with
      | nil =>
        show [(strSub x a x.length).cps.toList] = [r]
        rw [strSub_toList, hx]
        have : (rowsL [r]).length ≤ x.length - a := by rw [← hx, List.length_drop]; exact Nat.le_refl _
        rw [List.take_of_length_le this]; rfl
      | cons c cs =>
        obtain ⟨q, hq⟩ := at_mem hG.2.1
        have hac := hG.1
        have e : x.cps.toList.drop c = r.drop (c - a) := by
          rw [show r = x.cps.toList.drop a from hx.symm, List.drop_drop]; congr 1; omega
        exact absurd (List.mem_of_mem_drop (i := c - a) (by rw [← e, hq]; exact .head _)) hr
    | cons r' t =>
      have hx' : x.cps.toList.drop a = r ++ 13 :: 10 :: rowsL (r' :: t) := hx
      have at0 : x.cps.toList.drop (a + r.length) = 13 :: 10 :: rowsL (r' :: t) := by
        rw [← List.drop_drop, hx', List.drop_left]
      have hA : At x sep2 x.length (a + r.length) := at_sep.mpr (by rw [at0]; rfl)
      cases cuts with
      | nil =>
        have hf : f = a := hG
        exact absurd hA (hn _ (by omega))
      | cons c cs =>
        obtain ⟨hac, hc, hno, hG'⟩ := hG
        have ec : c = a + r.length := by
          rcases Nat.lt_trichotomy c (a + r.length) with h | h | h
          · obtain ⟨q, hq⟩ := at_mem hc
            have e : x.cps.toList.drop c = r.drop (c - a) ++ 13 :: 10 :: rowsL (r' :: t) := by
              have : c = a + (c - a) := by omega
              rw [this, ← List.drop_drop, hx', List.drop_append_of_le_length (by omega)]
              congr 2; omega
            rw [hq] at e
            cases hd : r.drop (c - a) with
            | nil =>
              have := congrArg List.length hd
              rw [List.length_drop] at this
              simp at this; omega
            | cons z zs =>
              rw [hd] at e
              have ez : 13 = z := (List.cons.inj e).1
              exact absurd (List.mem_of_mem_drop (i := c - a) (by rw [hd, ← ez]; exact .head _)) hr
          · exact h
          · exact absurd hA (hno _ (by omega) h)
        subst ec
        show (strSub x a (a + r.length)).cps.toList :: (partsFrom x 2 (a + r.length + 2) cs).map (fun p => p.cps.toList) = _
        rw [ih (a + r.length + 2) cs f (by simp) (fun q hq => h13 q (.tail _ hq)) (by rw [← List.drop_drop, at0]; rfl) hG' hn]
        rw [strSub_toList, hx', Nat.add_sub_cancel_left, List.take_left]
theorem split_rows {x : PySem.Str} {rs : List (List Nat)} (hne : rs ≠ []) (h13 : ∀ r ∈ rs, 13 ∉ r) (hx : x.cps.toList = rowsL rs) : (Txt.split x (PySem.Str.ofString "\r\n")).map (fun p => p.cps.toList) = rs := by
  have es : PySem.Str.ofString "\r\n" = sep2 := by decide +kernel
  rw [es]
  obtain ⟨f, hG, hn⟩ := occ_tight x sep2 (by decide)
  have key := parts_rows x rs 0 _ f hne h13 (by rw [List.drop_zero]; exact hx) hG hn
  unfold Txt.split
  split
  · rename_i hc
    have hl : x.length < 2 := by
      rw [Bool.or_eq_true, decide_eq_true_eq, decide_eq_true_eq] at hc
      rcases hc with h | h
      · exact h
      · exfalso
        have : strKind sep2 = 1 := by decide +kernel
        rw [this] at h
        unfold PySem.Builtin.Str.strKind at h
        split at h
        · omega
        · split at h
          · omega
          · omega
    cases ho : occurrences x sep2 0 x.length (x.length + 1) with
    | nil =>
      rw [ho] at key
      have e : partsFrom x 2 0 [] = [x] := by show [strSub x 0 x.length] = [x]; rw [sub_whole]
      rw [e] at key; exact key
    | cons c cs =>
      rw [ho] at hG
      have := hG.2.1.1
      have : sep2.length = 2 := rfl
      omega
  · split
    · rename_i h1 h2
      rw [List.isEmpty_iff.mp h2] at key
      have e : partsFrom x 2 0 [] = [x] := by show [strSub x 0 x.length] = [x]; rw [sub_whole]
      rw [e] at key; exact key
    · rw [partsBetween_eq]; exact key

/-! rows and their ends -/
noncomputable def segsL : List (List Nat × List Nat) → List Nat
  | [] => []
  | q :: r => q.1 ++ (q.2 ++ segsL r)
theorem segs_append : ∀ (l l' : List (List Nat × List Nat)), segsL (l ++ l') = segsL l ++ segsL l'
  | [], _ => rfl
  | q :: r, l' => by show q.1 ++ (q.2 ++ segsL (r ++ l')) = (q.1 ++ (q.2 ++ segsL r)) ++ segsL l'; rw [segs_append r l']; simp
noncomputable def EndOk (e : List Nat) : Prop := e = [10] ∨ e = [13] ∨ e = [13, 10]
noncomputable def SegOk (q : List Nat × List Nat) : Prop := 13 ∉ q.1 ∧ 10 ∉ q.1 ∧ EndOk q.2
noncomputable def NextOk : List (List Nat × List Nat) → Prop
  | [] => True
  | q :: r => (q.2 = [13] → ∀ r', segsL r ≠ 10 :: r') ∧ NextOk r
theorem crlf_free : ∀ (s r : List Nat), 13 ∉ s → 10 ∉ s → crlfL (s ++ r) = s ++ crlfL r
  | [], r, _, _ => rfl
  | c :: s, r, h1, h2 => by
    rw [List.cons_append, crlf_other c (s ++ r) (fun e => h1 (by rw [e]; exact .head _)) (fun e => h2 (by rw [e]; exact .head _)), crlf_free s r (fun h => h1 (.tail _ h)) (fun h => h2 (.tail _ h))]; rfl
theorem crlf_segs : ∀ l : List (List Nat × List Nat), (∀ q ∈ l, SegOk q) → NextOk l → crlfL (segsL l) = segsL (l.map fun q => (q.1, [13, 10]))
  | [], _, _ => rfl
  | q :: r, h, hn => by
    obtain ⟨a, b, e⟩ := h q (.head _)
    have ih := crlf_segs r (fun q hq => h q (.tail _ hq)) hn.2
    show crlfL (q.1 ++ (q.2 ++ segsL r)) = q.1 ++ ([13, 10] ++ segsL (r.map fun q => (q.1, [13, 10])))
    rw [crlf_free _ _ a b, ← ih]
    congr 1
    rcases e with e | e | e
    · rw [e]; exact crlf_lf _
    · rw [e]; exact crlf_cr _ (hn.1 e)
    · rw [e]; exact crlf_crlf _
noncomputable def dotrow : List Nat → List Nat
  | [] => []
  | c :: s => if c = 46 then 46 :: 46 :: s else c :: s
theorem dots_mid : ∀ (s r : List Nat), 10 ∉ s → dotsL false (s ++ 13 :: 10 :: r) = s ++ 13 :: 10 :: dotsL true r
  | [], r, _ => rfl
  | c :: s, r, h => by
    have hc : (c == 10) = false := by rw [beq_eq_false_iff_ne]; intro e; exact h (by rw [e]; exact .head _)
    have ih := dots_mid s r fun h' => h (.tail _ h')
    rw [List.cons_append, dotsL.eq_def]
    simp only [Bool.false_eq_true, false_and, if_false, hc]
    rw [ih]; rfl
theorem dots_row (s r : List Nat) (h : 10 ∉ s) : dotsL true (s ++ 13 :: 10 :: r) = dotrow s ++ 13 :: 10 :: dotsL true r := by
  cases s with
  | nil => rfl
  | cons c s =>
    have hc : (c == 10) = false := by rw [beq_eq_false_iff_ne]; intro e; exact h (by rw [e]; exact .head _)
    have hm := dots_mid s r fun h' => h (.tail _ h')
    rw [List.cons_append, dotsL.eq_def]
    unfold dotrow
    by_cases h46 : c = 46
    · simp only [h46, and_self, if_true, hm]; rfl
    · simp only [h46, and_false, if_false, hc, hm]; rfl
theorem dots_segs : ∀ l : List (List Nat × List Nat), (∀ q ∈ l, 10 ∉ q.1) → dotsL true (segsL (l.map fun q => (q.1, [13, 10]))) = segsL (l.map fun q => (dotrow q.1, [13, 10]))
  | [], _ => rfl
  | q :: r, h => by
    have ih := dots_segs r fun q hq => h q (.tail _ hq)
    show dotsL true (q.1 ++ 13 :: 10 :: segsL (r.map fun q => (q.1, [13, 10]))) = dotrow q.1 ++ 13 :: 10 :: segsL (r.map fun q => (dotrow q.1, [13, 10]))
    rw [dots_row _ _ (h q (.head _)), ih]
theorem segs_rows (g : List Nat → List Nat) : ∀ l : List (List Nat × List Nat), segsL (l.map fun q => (g q.1, [13, 10])) = rowsL ((l.map fun q => g q.1) ++ [[]])
  | [] => rfl
  | q :: r => by
    have ih := segs_rows g r
    show g q.1 ++ 13 :: 10 :: segsL (r.map fun q => (g q.1, [13, 10])) = _
    rw [ih]
    cases r with
    | nil => rfl
    | cons q' r => rfl
theorem next_ok (e : List Nat) : ∀ l : List (List Nat × List Nat), (∀ q ∈ l, q.1 ≠ [] ∧ 10 ∉ q.1) → (∀ q, l.getLast? = some q → q.2 = [13] → ∀ r', e ≠ 10 :: r') → NextOk (l ++ [([], e)])
  | [], _, _ => ⟨fun _ r' => (fun h => nomatch h), trivial⟩
  | q :: r, h, hl => by
    refine ⟨fun hq r' => ?_, next_ok e r (fun q hq => h q (.tail _ hq)) fun q' hq' => hl q' (by rw [List.getLast?_cons, hq']; rfl)⟩
    cases r with
    | nil =>
      show e ++ [] ≠ 10 :: r'
      rw [List.append_nil]
      exact hl q rfl hq r'
    | cons q' r =>
      obtain ⟨a, b⟩ := h q' (.tail _ (.head _))
      show q'.1 ++ _ ≠ _
      cases hq1 : q'.1 with
      | nil => exact absurd hq1 a
      | cons z zs =>
        intro e'
        have : z = 10 := (List.cons.inj e').1
        rw [hq1, this] at b
        exact b (.head _)
end Mine
end
section
open PySem PySem.W PySem.Spec PySem.Calls PyProof.Rows
set_option maxRecDepth 100000
set_option maxHeartbeats 0
set_option pp.deepTerms.threshold 6
set_option pp.proofs.threshold 3
namespace Mine
/-- what parse257 reads behind the opening quote -/
noncomputable def p257 : List Nat → List Nat
  | [] => []
  | c :: r => if c = 34 then (match r with | d :: r' => if d = 34 then 34 :: p257 r' else [] | [] => []) else c :: p257 r
noncomputable def st257 (x : PySem.Str) (i : Int) (d : PySem.Str) : Prop :=
  d.cps.toList ++ p257 (x.cps.toList.drop i.toNat) = p257 (x.cps.toList.drop 5)
theorem item_list1 {x : PySem.Str} {i : Int} (h0 : 0 ≤ i) (h1 : i < (x.length : Int)) : Txt.item x i = ⟨#[x.cps.toList.getD i.toNat 0]⟩ := by
  unfold Txt.item Txt.charAt
  rw [StrLaws.seqIndex_nonneg h0 h1]
  show PySem.Str.mk #[(x.cps[i.toNat]?).getD 0] = _
  rw [List.getD_eq_getElem?_getD, Array.getElem?_toList]
theorem item_is {x : PySem.Str} {i : Int} (h0 : 0 ≤ i) (h1 : i < (x.length : Int)) : (Txt.item x i == PySem.Str.ofString "\"") = decide (x.cps.toList.getD i.toNat 0 = 34) := by
  rw [item_list1 h0 h1]
  generalize x.cps.toList.getD i.toNat 0 = c
  by_cases hc : c = 34
  · subst hc; rfl
  · rw [decide_eq_false hc]
    rw [beq_eq_false_iff_ne]
    intro e
    have e' : [c] = [34] := congrArg (fun y : PySem.Str => y.cps.toList) e
    exact hc (List.cons.inj e').1
theorem drop_at {l : List Nat} {p : Nat} (h : p < l.length) : l.drop p = l.getD p 0 :: l.drop (p + 1) := by
  rw [List.drop_eq_getElem_cons h]
  congr 1
  simp [List.getD_eq_getElem?_getD, h]
section
variable {x d : PySem.Str} {i : Int}
noncomputable abbrev S257 (x : PySem.Str) (i : Int) (d : PySem.Str) : Prop := 5 ≤ i ∧ i ≤ (x.length : Int) ∧ (d.length : Int) ≤ i ∧ st257 x i d
theorem w_start (h : 5 ≤ x.length) : S257 x 5 (PySem.Str.ofString "") := ⟨by omega, by omega, by decide, rfl⟩
theorem w_end (h : st257 x i d) (h5 : 5 ≤ i) (hl : (d.length : Int) ≤ i) (hi : ¬ i < (x.length : Int)) : d.cps.toList = p257 (x.cps.toList.drop 5) := by
  unfold st257 at h
  have e : x.cps.toList.drop i.toNat = [] := List.drop_eq_nil_of_le (by show x.length ≤ _; omega)
  rw [e] at h
  rw [← h]; exact (List.append_nil _).symm
theorem toNat_succ' {i : Int} (h : 0 ≤ i) : (i + 1).toNat = i.toNat + 1 := by omega
theorem w_brk1 (h : st257 x i d) (h5 : 5 ≤ i) (hl : (d.length : Int) ≤ i) (hi : i < (x.length : Int)) (hc : (Txt.item x i == PySem.Str.ofString "\"") = true) (hn : (x.length : Int) ≤ i + 1) : d.cps.toList = p257 (x.cps.toList.drop 5) := by
  rw [item_is (by omega) hi, decide_eq_true_eq] at hc
  unfold st257 at h
  rw [drop_at (by show i.toNat < x.length; omega), hc] at h
  have e : x.cps.toList.drop (i.toNat + 1) = [] := List.drop_eq_nil_of_le (by show x.length ≤ _; omega)
  rw [e] at h
  rw [← h]; exact (List.append_nil _).symm
theorem w_brk2 (h : st257 x i d) (h5 : 5 ≤ i) (hl : (d.length : Int) ≤ i) (hi : i < (x.length : Int)) (hc : (Txt.item x i == PySem.Str.ofString "\"") = true) (hn : ¬ (x.length : Int) ≤ i + 1) (hc2 : (Txt.item x (i + 1) != PySem.Str.ofString "\"") = true) : d.cps.toList = p257 (x.cps.toList.drop 5) := by
  rw [item_is (by omega) hi, decide_eq_true_eq] at hc
  rw [bne, item_is (by omega) (by omega), toNat_succ' (by omega), Bool.not_eq_true', decide_eq_false_iff_not] at hc2
  unfold st257 at h
  rw [drop_at (by show i.toNat < x.length; omega), hc, drop_at (by show i.toNat + 1 < x.length; omega)] at h
  have e : p257 (34 :: x.cps.toList.getD (i.toNat + 1) 0 :: x.cps.toList.drop (i.toNat + 1 + 1)) = [] := by
    rw [p257.eq_def]; simp only [if_true, if_neg hc2]
  rw [e] at h
  rw [← h]; exact (List.append_nil _).symm
theorem app_item {y : PySem.Str} (h0 : 0 ≤ i) (h1 : i < (x.length : Int)) : (y ++ Txt.item x i).cps.toList = y.cps.toList ++ [x.cps.toList.getD i.toNat 0] := by
  rw [item_list1 h0 h1]
  show (y.cps ++ #[_]).toList = _
  simp
theorem app_len {y : PySem.Str} (h0 : 0 ≤ i) (h1 : i < (x.length : Int)) : (y ++ Txt.item x i).length = y.length + 1 := by
  show (y ++ Txt.item x i).cps.toList.length = y.cps.toList.length + 1
  rw [app_item h0 h1]; simp
theorem w_two (h : st257 x i d) (h5 : 5 ≤ i) (hl : (d.length : Int) ≤ i) (hi : i < (x.length : Int)) (hc : (Txt.item x i == PySem.Str.ofString "\"") = true) (hn : ¬ (x.length : Int) ≤ i + 1) (hc2 : (Txt.item x (i + 1) != PySem.Str.ofString "\"") = false) : S257 x (i + 1 + 1) (d ++ Txt.item x i) := by
  refine ⟨by omega, by omega, by rw [app_len (by omega) hi]; omega, ?_⟩
  rw [item_is (by omega) hi, decide_eq_true_eq] at hc
  rw [bne, item_is (by omega) (by omega), toNat_succ' (by omega), Bool.not_eq_false', decide_eq_true_eq] at hc2
  unfold st257 at h ⊢
  rw [app_item (by omega) hi, ← h, toNat_succ' (by omega), toNat_succ' (by omega), drop_at (p := i.toNat) (by show i.toNat < x.length; omega), hc, drop_at (p := i.toNat + 1) (by show i.toNat + 1 < x.length; omega), hc2]
  have e : ∀ r, p257 (34 :: 34 :: r) = 34 :: p257 r := fun r => by rw [p257.eq_def]; simp only [if_true]
  rw [e]; simp
theorem w_one (h : st257 x i d) (h5 : 5 ≤ i) (hl : (d.length : Int) ≤ i) (hi : i < (x.length : Int)) (hc : ¬ (Txt.item x i == PySem.Str.ofString "\"") = true) : S257 x (i + 1) (d ++ Txt.item x i) := by
  refine ⟨by omega, by omega, by rw [app_len (by omega) hi]; omega, ?_⟩
  rw [item_is (by omega) hi, decide_eq_true_eq] at hc
  unfold st257 at h ⊢
  rw [app_item (by omega) hi, ← h, toNat_succ' (by omega), drop_at (p := i.toNat) (by show i.toNat < x.length; omega)]
  have e : ∀ c r, c ≠ 34 → p257 (c :: r) = c :: p257 r := fun c r hc => by rw [p257.eq_def]; simp only [if_neg hc]
  rw [e _ _ hc]; simp
theorem w_one' (h : st257 x i d) (h5 : 5 ≤ i) (hl : (d.length : Int) ≤ i) (hi : i < (x.length : Int)) (hc : (Txt.item x i == PySem.Str.ofString "\"") = false) : S257 x (i + 1) (d ++ Txt.item x i) := w_one h h5 hl hi (by rw [hc]; decide)
end
theorem c_parse257 {w mean mg mb news} (x : PySem.Str) (tk : Tok) : CClaim w mean mg mb 2 82 news (fun _ => x.length ≤ 2000 ∧ 5 ≤ x.length ∧ (Txt.slice x none (some 3) != PySem.Str.ofString "257") = false ∧ (Txt.slice x (some 3) (some 5) != PySem.Str.ofString " \"") = false) [.str x tk]
   (fun h₀ L m s Q _E => ∀ (r : PySem.Str) (t : Tok) (h' : Heap) (tk' : Nat), r.cps.toList = p257 (x.cps.toList.drop 5) → Fr h₀ L h' m → News h₀ L h' news → Q (.str r t) { s with heap := h', toks := tk' }) := by
  unfold CClaim
  k_fill
  w_top off
  k_with_none
  k_with "subscriptTail" => (k_here; (with_reducible show wpAny _ _ (subscriptTail _ _ (Value.str _ _) (Value.int _ _)) _ _ _); (refine KXi.item rfl (by omega) (by omega) (by omega) ?_); intro kxiE)
  intro dp un gd cn cs a ccd cl outer A₀ base h₀ L m s Q E B F X N T hk hx hd9 hu9 hret
  obtain ⟨hx, hx5, he1, he2⟩ := hx
  k_with "exec While Compare cons nil" => k_while (fun _ i d => 5 ≤ i ∧ i ≤ (x.length : Int) ∧ (d.length : Int) ≤ i ∧ st257 x i d) (fun _ i _ => x.length - i.toNat) "i" "dirname"
  k_with "state" => first | exact w_start (by assumption) | exact w_two (by assumption) (by assumption) (by assumption) (by assumption) (by assumption) (by assumption) (by assumption) | exact w_one (by assumption) (by assumption) (by assumption) (by assumption) (by assumption) | exact w_one' (by assumption) (by assumption) (by assumption) (by assumption) (by assumption)
  refine wpAny_call ?_
  k_dflt cell_enter
  k_steps
  all_goals first
    | exact hret _ _ _ _ (w_end (by assumption) (by assumption) (by assumption) (by assumption)) (by k_asm) (by k_asm)
    | exact hret _ _ _ _ (w_brk1 (by assumption) (by assumption) (by assumption) (by assumption) (by assumption) (by assumption)) (by k_asm) (by k_asm)
    | exact hret _ _ _ _ (w_brk2 (by assumption) (by assumption) (by assumption) (by assumption) (by assumption) (by assumption) (by assumption)) (by k_asm) (by k_asm)
end Mine
end
section
open PySem PySem.W PySem.Spec PySem.Calls PyProof.Rows
set_option maxRecDepth 100000
namespace Mine
/-- what parse257 tells of n quotes and a sign -/
noncomputable def toldS (n : Int) (sg : PySem.Str) : PySem.Str := ⟨(List.replicate (n.toNat / 2) 34 ++ (if n.toNat % 2 = 0 then sg.cps.toList else [])).toArray⟩
noncomputable def askS (n : Int) (sg : PySem.Str) : PySem.Str := PySem.Str.ofString "257 \"" ++ Txt.mul (PySem.Str.ofString "\"") n ++ sg ++ PySem.Str.ofString "\""
noncomputable def SignOk (sg : PySem.Str) : Prop := ∃ c, sg.cps.toList = [c] ∧ c ≠ 34
theorem p257_quotes {c : Nat} (hc : c ≠ 34) : ∀ n : Nat, p257 (List.replicate n 34 ++ [c, 34]) = List.replicate (n / 2) 34 ++ (if n % 2 = 0 then [c] else [])
  | 0 => by
    show p257 [c, 34] = [c]
    rw [p257.eq_def]; simp only [if_neg hc]
    have : p257 [34] = [] := by rw [p257.eq_def]; simp only [if_true]
    rw [this]
  | 1 => by
    show p257 [34, c, 34] = []
    rw [p257.eq_def]; simp only [if_true, if_neg hc]
  | n + 2 => by
    have ih := p257_quotes hc n
    have e : List.replicate (n + 2) 34 ++ [c, 34] = 34 :: 34 :: (List.replicate n 34 ++ [c, 34]) := by simp [List.replicate_succ]
    rw [e, p257.eq_def]; simp only [if_true]
    rw [ih]
    have h1 : (n + 2) / 2 = n / 2 + 1 := by omega
    have h2 : (n + 2) % 2 = n % 2 := by omega
    rw [h1, h2, List.replicate_succ, List.cons_append]
theorem ask_list {n : Int} {sg : PySem.Str} {c : Nat} (hs : sg.cps.toList = [c]) : (askS n sg).cps.toList = [50, 53, 55, 32, 34] ++ (List.replicate n.toNat 34 ++ [c, 34]) := by
  unfold askS
  rw [app_toList, app_toList, app_toList, hs]
  have h1 : (Txt.mul (PySem.Str.ofString "\"") n).cps.toList = List.replicate n.toNat 34 := mul_one_list 34 n
  rw [h1]
  have h2 : (PySem.Str.ofString "257 \"").cps.toList = [50, 53, 55, 32, 34] := by decide +kernel
  have h3 : (PySem.Str.ofString "\"").cps.toList = [34] := by decide +kernel
  rw [h2, h3]
  simp
theorem told_is {n : Int} {sg : PySem.Str} (hs : SignOk sg) : p257 ((askS n sg).cps.toList.drop 5) = (toldS n sg).cps.toList := by
  obtain ⟨c, e, hc⟩ := hs
  rw [ask_list e]
  show p257 (List.replicate n.toNat 34 ++ [c, 34]) = List.replicate (n.toNat / 2) 34 ++ (if n.toNat % 2 = 0 then sg.cps.toList else [])
  rw [p257_quotes hc, e]
theorem told_len {n : Int} {sg : PySem.Str} (h0 : 0 ≤ n) (h1 : n ≤ 100) (hs : SignOk sg) : (toldS n sg).length ≤ 100 := by
  obtain ⟨c, e, hc⟩ := hs
  show (toldS n sg).cps.toList.length ≤ 100
  show (List.replicate (n.toNat / 2) 34 ++ (if n.toNat % 2 = 0 then sg.cps.toList else [])).length ≤ 100
  rw [e, List.length_append, List.length_replicate]
  split <;> simp only [List.length_cons, List.length_nil] <;> omega
theorem ask_len {n : Int} {sg : PySem.Str} (h0 : 0 ≤ n) (h1 : n ≤ 100) (hs : SignOk sg) : (askS n sg).length ≤ 200 := by
  obtain ⟨c, e, hc⟩ := hs
  show (askS n sg).cps.toList.length ≤ 200
  rw [ask_list e]
  simp only [List.length_append, List.length_replicate, List.length_cons, List.length_nil]
  omega
theorem cnt_rep (c : Nat) : ∀ k : Nat, cnt c (List.replicate k c) = k
  | 0 => rfl
  | k + 1 => by rw [List.replicate_succ, cnt_cons, cnt_rep c k, if_pos rfl]; omega
theorem told_count {n : Int} {sg : PySem.Str} (h0 : 0 ≤ n) (h1 : n ≤ 100) (hs : SignOk sg) : Txt.count (toldS n sg) (PySem.Str.ofString "\"") = n.fdiv 2 := by
  obtain ⟨c, e, hc⟩ := hs
  have h2 : PySem.Str.ofString "\"" = ⟨#[34]⟩ := by decide +kernel
  rw [h2, count_is]
  show cnt 34 (List.replicate (n.toNat / 2) 34 ++ (if n.toNat % 2 = 0 then sg.cps.toList else [])) = n.fdiv 2
  rw [cnt_append, cnt_rep, e, cnt_none 34 _ (by split <;> simp [Ne.symm hc])]
  have : n.fdiv 2 = n / 2 := Int.fdiv_eq_ediv_of_nonneg _ (by omega)
  rw [this]
  omega
theorem str_eq {x y : PySem.Str} (h : x.cps.toList = y.cps.toList) : x = y := by
  obtain ⟨a⟩ := x; obtain ⟨b⟩ := y
  exact congrArg PySem.Str.mk (Array.toList_inj.mp h)
theorem slice_from {x : PySem.Str} {i : Int} (h0 : 0 ≤ i) (h1 : i ≤ x.cps.toList.length) : (Txt.slice x (some i) none).cps.toList = x.cps.toList.drop i.toNat := by
  have e : Txt.slice x (some i) none = _ := StrLaws.sliceText_from ⟨h0, h1⟩
  rw [e]
  show (x.cps.toList.drop i.toNat).take ((x.cps.toList.length : Int) - i).toNat = _
  rw [List.take_of_length_le]
  rw [List.length_drop]; omega
theorem told_rest {n : Int} {sg : PySem.Str} (h0 : 0 ≤ n) (h1 : n ≤ 100) (hs : SignOk sg) : (Txt.slice (toldS n sg) (some (n.fdiv 2)) none == sg) = decide (n.fmod 2 = 0) := by
  obtain ⟨c, e, hc⟩ := hs
  have d : n.fdiv 2 = n / 2 := Int.fdiv_eq_ediv_of_nonneg _ (by omega)
  have m : n.fmod 2 = n % 2 := Int.fmod_eq_emod_of_nonneg _ (by omega)
  have tl : (toldS n sg).cps.toList = List.replicate (n.toNat / 2) 34 ++ (if n.toNat % 2 = 0 then [c] else []) := by rw [← e]; rfl
  have hl : (Txt.slice (toldS n sg) (some (n / 2)) none).cps.toList = if n.toNat % 2 = 0 then [c] else [] := by
    rw [slice_from (by omega) (by rw [tl, List.length_append, List.length_replicate]; omega), tl]
    have : (n / 2).toNat = n.toNat / 2 := by omega
    rw [this, List.drop_append_of_le_length (by simp)]
    simp
  rw [d, m]
  by_cases hn : n % 2 = 0
  · have hn' : n.toNat % 2 = 0 := by omega
    rw [if_pos hn'] at hl
    rw [decide_eq_true hn, str_eq (hl.trans e.symm)]
    exact beq_self_eq_true _
  · have hn' : ¬ n.toNat % 2 = 0 := by omega
    rw [if_neg hn'] at hl
    rw [decide_eq_false hn]
    refine beq_eq_false_iff_ne.mpr fun q => ?_
    rw [q, e] at hl
    cases hl
theorem ask_slice1 {n : Int} {sg : PySem.Str} (hs : SignOk sg) : (Txt.slice (askS n sg) none (some 3) != PySem.Str.ofString "257") = false := by
  obtain ⟨c, e, hc⟩ := hs
  have al := ask_list (n := n) e
  have e1 : Txt.slice (askS n sg) none (some 3) = _ := StrLaws.sliceText_to ⟨by decide, by rw [al]; simp; omega⟩
  have e2 : Txt.slice (askS n sg) none (some 3) = PySem.Str.ofString "257" := by
    refine str_eq ?_
    rw [e1]
    show ((askS n sg).cps.toList.drop 0).take 3 = _
    rw [al]
    have : (PySem.Str.ofString "257").cps.toList = [50, 53, 55] := by decide +kernel
    rw [this]; rfl
  rw [e2]; exact bne_self_eq_false _
theorem ask_slice2 {n : Int} {sg : PySem.Str} (hs : SignOk sg) : (Txt.slice (askS n sg) (some 3) (some 5) != PySem.Str.ofString " \"") = false := by
  obtain ⟨c, e, hc⟩ := hs
  have al := ask_list (n := n) e
  have e1 : Txt.slice (askS n sg) (some 3) (some 5) = _ := StrLaws.sliceText_plain ⟨by decide, by decide, by rw [al]; simp; omega⟩
  have e2 : Txt.slice (askS n sg) (some 3) (some 5) = PySem.Str.ofString " \"" := by
    refine str_eq ?_
    rw [e1]
    show ((askS n sg).cps.toList.drop 3).take 2 = _
    rw [al]
    have : (PySem.Str.ofString " \"").cps.toList = [32, 34] := by decide +kernel
    rw [this]; rfl
  rw [e2]; exact bne_self_eq_false _
theorem c_told {w mean mg mb news} (n : Int) (sg : PySem.Str) (tk : Tok) : CClaim w mean mg mb 2 82 news (fun _ => 0 ≤ n ∧ n ≤ 100 ∧ SignOk sg) [.str (askS n sg) tk]
   (fun h₀ L m s Q _E => ∀ (t : Tok) (h' : Heap) (tk' : Nat), Fr h₀ L h' m → News h₀ L h' news → Q (.str (toldS n sg) t) { s with heap := h', toks := tk' }) := by
  unfold CClaim
  intro dp un gd cn cs a ccd cl outer A₀ base h₀ L m s Q E B F X N T hk hx hd9 hu9 hret
  obtain ⟨h0, h1, hs⟩ := hx
  have hl := ask_len h0 h1 hs
  refine c_parse257 (askS n sg) tk dp un gd cn cs a ccd cl outer A₀ base h₀ L m s Q E B F X N T hk ⟨by omega, ?_, ask_slice1 hs, ask_slice2 hs⟩ hd9 hu9 fun r t h' tk' hr F' N' => ?_
  · obtain ⟨c, e, hc⟩ := hs
    have al := ask_list (n := n) e
    show 5 ≤ (askS n sg).cps.toList.length
    rw [al]; simp
  · rw [told_is hs] at hr
    rw [str_eq hr]
    exact hret t h' tk' F' N'
section
variable {prog : Program} {w : World} {A : Around} {E Q : Value → Shared → Prop} {s : Shared} {t u : Tok} {n : Int} {sg : PySem.Str}
theorem call_told_count (h0 : 0 ≤ n) (h1 : n ≤ 100) (hs : SignOk sg) (hq : ∀ t' k, Q (.int (n.fdiv 2) t') { s with toks := k }) : wpAny (model prog w) A (call (.builtin "str.count") [.str (toldS n sg) t, .str (PySem.Str.ofString "\"") u]) Q E s := by
  refine SC.count ?_
  rw [told_count h0 h1 hs]
  exact hq _ _
end
end Mine
end
section
open PySem PySem.W PySem.Spec PySem.Calls PyProof.Rows
set_option maxRecDepth 100000
namespace Mine
/-! the rows of _law_laid's mail -/
noncomputable def frontN (cell : Int) (p k : Nat) : List Nat := (frontS cell p k).cps.toList
noncomputable def dotN (B9 : List Int) (k : Nat) : List Nat := List.replicate (B9.getD k 0 + 1).toNat 46
noncomputable def segN (B9 : List Int) (cell : Int) (p k : Nat) : List Nat × List Nat := (frontN cell p k ++ dotN B9 k, (endS cell k).cps.toList)
theorem mul_dot (n : Int) : (Txt.mul (PySem.Str.ofString ".") n).cps.toList = List.replicate n.toNat 46 := mul_one_list 46 n
theorem mail_segs (B9 : List Int) (cell : Int) (p : Nat) : ∀ i, (mailS B9 cell p i).cps.toList = segsL ((List.range i).map (segN B9 cell p))
  | 0 => rfl
  | i + 1 => by
    rw [List.range_succ, List.map_append, segs_append, ← mail_segs B9 cell p i]
    show (mailS B9 cell p i ++ (frontS cell p i ++ Txt.mul (PySem.Str.ofString ".") (B9.getD i 0 + 1) ++ endS cell i)).cps.toList = _
    rw [app_toList, app_toList, app_toList, mul_dot]
    show _ = _ ++ ((frontN cell p i ++ dotN B9 i) ++ ((endS cell i).cps.toList ++ []))
    rw [List.append_nil]; rfl
theorem cover_cases (cell : Int) : (coverS cell).cps.toList = [120] ∨ (coverS cell).cps.toList = [32] ∨ (coverS cell).cps.toList = [11] ∨ (coverS cell).cps.toList = [8232] := by
  have h0 : 0 ≤ cell.fmod 4 := Int.fmod_nonneg_of_pos _ (by decide)
  have h1 : cell.fmod 4 < 4 := Int.fmod_lt_of_pos _ (by decide)
  have key : ∀ k : Nat, k < 4 → (Txt.item (PySem.Str.ofString "x \x0b\u2028") (k : Int)).cps.toList = [120] ∨ (Txt.item (PySem.Str.ofString "x \x0b\u2028") (k : Int)).cps.toList = [32] ∨ (Txt.item (PySem.Str.ofString "x \x0b\u2028") (k : Int)).cps.toList = [11] ∨ (Txt.item (PySem.Str.ofString "x \x0b\u2028") (k : Int)).cps.toList = [8232] := by decide +kernel
  have := key (cell.fmod 4).toNat (by omega)
  rw [Int.toNat_of_nonneg h0] at this
  exact this
theorem cover_one (cell : Int) : ∃ c, (coverS cell).cps.toList = [c] ∧ c ≠ 46 ∧ c ≠ 13 ∧ c ≠ 10 := by
  rcases cover_cases cell with h | h | h | h <;> exact ⟨_, h, by decide, by decide, by decide⟩
theorem front_cases (cell : Int) (p k : Nat) : (p / 2 ^ k % 2 = 1 ∧ frontN cell p k = []) ∨ (p / 2 ^ k % 2 = 0 ∧ ∃ c, frontN cell p k = [c] ∧ c ≠ 46 ∧ c ≠ 13 ∧ c ≠ 10) := by
  unfold frontN frontS
  by_cases h : p / 2 ^ k % 2 = 1
  · exact .inl ⟨h, by rw [if_pos h]; rfl⟩
  · exact .inr ⟨by omega, by rw [if_neg h]; exact cover_one cell⟩
theorem end_ok (cell k : Int) : EndOk (endS cell k).cps.toList := by
  have h0 : 0 ≤ (cell + k).fmod 3 := Int.fmod_nonneg_of_pos _ (by decide)
  have h1 : (cell + k).fmod 3 < 3 := Int.fmod_lt_of_pos _ (by decide)
  have key : ∀ j : Nat, j < 3 → EndOk (endsL.getD j PySem.Str.empty).cps.toList := by
    intro j hj
    match j, hj with
    | 0, _ => exact .inl (by decide)
    | 1, _ => exact .inr (.inl (by decide))
    | 2, _ => exact .inr (.inr (by decide))
  exact key _ (by omega)
theorem end_same (cell : Int) : endS cell ((11 : Nat) : Int) = endS cell 2 := by
  unfold endS
  have : (cell + ((11 : Nat) : Int)).fmod 3 = (cell + 2).fmod 3 := by
    rw [Int.fmod_eq_emod_of_nonneg _ (by decide), Int.fmod_eq_emod_of_nonneg _ (by decide)]; omega
  rw [this]
theorem not_mem_rep {a b n : Nat} (h : a ≠ b) : a ∉ List.replicate n b := fun hm => h (List.eq_of_mem_replicate hm)
theorem seg_ok (B9 : List Int) (cell : Int) (p k : Nat) : SegOk (segN B9 cell p k) := by
  refine ⟨?_, ?_, end_ok _ _⟩
  · show 13 ∉ frontN cell p k ++ dotN B9 k
    rw [List.mem_append, not_or]
    refine ⟨?_, not_mem_rep (by decide)⟩
    rcases front_cases cell p k with ⟨_, h⟩ | ⟨_, c, h, _, h1, h2⟩ <;> rw [h]
    · exact fun h => nomatch h
    · rw [List.mem_singleton]; exact fun e => h1 e.symm
  · show 10 ∉ frontN cell p k ++ dotN B9 k
    rw [List.mem_append, not_or]
    refine ⟨?_, not_mem_rep (by decide)⟩
    rcases front_cases cell p k with ⟨_, h⟩ | ⟨_, c, h, _, h1, h2⟩ <;> rw [h]
    · exact fun h => nomatch h
    · rw [List.mem_singleton]; exact fun e => h2 e.symm
noncomputable def bitN (p k : Nat) : Nat := p / 2 ^ k % 2
/-- a row as it comes back -/
noncomputable def rowN (B9 : List Int) (cell : Int) (p k : Nat) : List Nat := frontN cell p k ++ List.replicate ((B9.getD k 0 + 1).toNat + bitN p k) 46
theorem dotrow_seg (B9 : List Int) (cell : Int) (p k : Nat) (hb : 0 ≤ B9.getD k 0) : dotrow (segN B9 cell p k).1 = rowN B9 cell p k := by
  show dotrow (frontN cell p k ++ dotN B9 k) = frontN cell p k ++ List.replicate ((B9.getD k 0 + 1).toNat + bitN p k) 46
  unfold bitN dotN
  obtain ⟨n, hn⟩ : ∃ n, (B9.getD k 0 + 1).toNat = n + 1 := ⟨(B9.getD k 0).toNat, by omega⟩
  rw [hn]
  rcases front_cases cell p k with ⟨h0, h⟩ | ⟨h0, c, h, h46, _⟩ <;> rw [h, h0]
  · rw [List.nil_append, List.nil_append, List.replicate_succ]
    show (if (46 : Nat) = 46 then 46 :: 46 :: List.replicate n 46 else 46 :: List.replicate n 46) = _
    rw [if_pos rfl]; rfl
  · show (if c = 46 then 46 :: 46 :: ([] ++ List.replicate (n + 1) 46) else c :: ([] ++ List.replicate (n + 1) 46)) = _
    rw [if_neg h46]; rfl
noncomputable def rowS (B9 : List Int) (cell : Int) (p k : Nat) : PySem.Str := ⟨(rowN B9 cell p k).toArray⟩
noncomputable def rowsS (B9 : List Int) (cell : Int) (p : Nat) : List PySem.Str := (List.range 12).map (rowS B9 cell p) ++ [PySem.Str.ofString "", PySem.Str.ofString ""]
theorem map_inj {l l' : List PySem.Str} (h : l.map (fun y => y.cps.toList) = l'.map (fun y => y.cps.toList)) : l = l' := by
  induction l generalizing l' with
  | nil => cases l' with
    | nil => rfl
    | cons a b => cases h
  | cons a b ih => cases l' with
    | nil => cases h
    | cons a' b' =>
      rw [List.map_cons, List.map_cons] at h
      obtain ⟨h1, h2⟩ := List.cons.inj h
      rw [str_eq h1, ih h2]
theorem laid_rows (B9 : List Int) (cell : Int) (p : Nat) (hb : ∀ b ∈ B9, 0 ≤ b ∧ b ≤ 98) : Txt.split (dots (crlf (mailS B9 cell p 12 ++ endS cell 2))) (PySem.Str.ofString "\r\n") = rowsS B9 cell p := by
  have hB : ∀ k, 0 ≤ B9.getD k 0 := fun k => by
    rw [List.getD_eq_getElem?_getD]
    by_cases hk : k < B9.length
    · rw [List.getElem?_eq_getElem hk]; exact (hb _ (List.getElem_mem hk)).1
    · rw [List.getElem?_eq_none (by omega)]; decide
  have hne : ∀ q ∈ (List.range 12).map (segN B9 cell p), q.1 ≠ [] ∧ 10 ∉ q.1 := by
    intro q hq
    obtain ⟨k, _, rfl⟩ := List.mem_map.mp hq
    refine ⟨?_, (seg_ok B9 cell p k).2.1⟩
    show frontN cell p k ++ dotN B9 k ≠ []
    unfold dotN
    obtain ⟨n, hn⟩ : ∃ n, (B9.getD k 0 + 1).toNat = n + 1 := ⟨(B9.getD k 0).toNat, by have := hB k; omega⟩
    rw [hn, List.replicate_succ]
    simp
  have hT : (mailS B9 cell p 12 ++ endS cell 2).cps.toList = segsL ((List.range 12).map (segN B9 cell p) ++ [([], (endS cell 2).cps.toList)]) := by
    rw [app_toList, mail_segs, segs_append]
    show _ = _ ++ ([] ++ ((endS cell 2).cps.toList ++ []))
    rw [List.append_nil, List.nil_append]
  have hok : ∀ q ∈ (List.range 12).map (segN B9 cell p) ++ [([], (endS cell 2).cps.toList)], SegOk q := by
    intro q hq
    rcases List.mem_append.mp hq with hq | hq
    · obtain ⟨k, _, rfl⟩ := List.mem_map.mp hq
      exact seg_ok B9 cell p k
    · rw [List.mem_singleton.mp hq]; exact ⟨fun h => (nomatch h), fun h => (nomatch h), end_ok _ _⟩
  have hnext : NextOk ((List.range 12).map (segN B9 cell p) ++ [([], (endS cell 2).cps.toList)]) := by
    refine next_ok _ _ hne fun q hq hq13 r' => ?_
    have e : ((List.range 12).map (segN B9 cell p)).getLast? = some (segN B9 cell p 11) := rfl
    rw [e] at hq
    have e2 : q = segN B9 cell p 11 := (Option.some.inj hq).symm
    rw [e2] at hq13
    have e3 : (endS cell ((11 : Nat) : Int)).cps.toList = [13] := hq13
    rw [end_same] at e3
    rw [e3]; intro h; exact absurd (List.cons.inj h).1 (by decide)
  have hcr : (dots (crlf (mailS B9 cell p 12 ++ endS cell 2))).cps.toList = rowsL (((List.range 12).map (rowN B9 cell p) ++ [[]]) ++ [[]]) := by
    show dotsL true (crlfL (mailS B9 cell p 12 ++ endS cell 2).cps.toList) = _
    rw [hT, crlf_segs _ hok hnext, dots_segs _ fun q hq => (hok q hq).2.1, segs_rows dotrow, List.map_append, List.map_map]
    congr 3
    exact List.map_congr_left fun k _ => dotrow_seg B9 cell p k (hB k)
  refine map_inj ?_
  rw [split_rows (rs := ((List.range 12).map (rowN B9 cell p) ++ [[]]) ++ [[]]) (by simp) ?_ hcr]
  · unfold rowsS
    rw [List.map_append, List.map_map, List.append_assoc]
    rfl
  · intro r hr
    rcases List.mem_append.mp hr with hr | hr
    · rcases List.mem_append.mp hr with hr | hr
      · obtain ⟨k, _, rfl⟩ := List.mem_map.mp hr
        unfold rowN
        rw [List.mem_append, not_or]
        refine ⟨?_, not_mem_rep (by decide)⟩
        rcases front_cases cell p k with ⟨_, h⟩ | ⟨_, c, h, _, h1, h2⟩ <;> rw [h]
        · exact fun h => nomatch h
        · rw [List.mem_singleton]; exact fun e => h1 e.symm
      · rw [List.mem_singleton.mp hr]; exact fun h => nomatch h
    · rw [List.mem_singleton.mp hr]; exact fun h => nomatch h
/-! what the law reads off the rows -/
theorem row_replace (B9 : List Int) (cell : Int) (p k : Nat) : Txt.replace (rowS B9 cell p k) (PySem.Str.ofString ".") (PySem.Str.ofString "") = frontS cell p k := by
  refine str_eq ?_
  have e1 : PySem.Str.ofString "." = ⟨#[46]⟩ := by decide +kernel
  have e2 : PySem.Str.ofString "" = ⟨#[]⟩ := by decide +kernel
  rw [e1, e2, replace_strikes]
  show (frontN cell p k ++ List.replicate _ 46).filter (· != 46) = frontN cell p k
  rw [List.filter_append]
  have h2 : (List.replicate ((B9.getD k 0 + 1).toNat + bitN p k) 46).filter (· != 46) = [] := by
    rw [List.filter_replicate]; simp
  rw [h2, List.append_nil]
  rcases front_cases cell p k with ⟨_, h⟩ | ⟨_, c, h, h46, _⟩ <;> rw [h]
  · rfl
  · simp [h46]
theorem empty_replace : Txt.replace (PySem.Str.ofString "") (PySem.Str.ofString ".") (PySem.Str.ofString "") = PySem.Str.ofString "" := by decide +kernel
theorem rows_replaced (B9 : List Int) (cell : Int) (p : Nat) : (rowsS B9 cell p).map (fun y => Txt.replace y (PySem.Str.ofString ".") (PySem.Str.ofString "")) = frontsL cell p 12 ++ [PySem.Str.ofString "", PySem.Str.ofString ""] := by
  unfold rowsS frontsL
  rw [List.map_append, List.map_map]
  congr 1
  · exact List.map_congr_left fun k _ => row_replace B9 cell p k
  · simp only [List.map_cons, List.map_nil, empty_replace]
theorem row_count (B9 : List Int) (cell : Int) (p k : Nat) (hb : 0 ≤ B9.getD k 0) : Txt.count (rowS B9 cell p k) (PySem.Str.ofString ".") - 1 = B9.getD k 0 + (bitN p k : Int) := by
  have e1 : PySem.Str.ofString "." = ⟨#[46]⟩ := by decide +kernel
  rw [e1, count_is]
  show cnt 46 (frontN cell p k ++ List.replicate _ 46) - 1 = _
  rw [cnt_append, cnt_rep]
  have h0 : cnt 46 (frontN cell p k) = 0 := by
    refine cnt_none 46 _ ?_
    rcases front_cases cell p k with ⟨_, h⟩ | ⟨_, c, h, h46, _⟩ <;> rw [h]
    · exact fun h => nomatch h
    · rw [List.mem_singleton]; exact fun e => h46 e.symm
  rw [h0]
  omega
/-- the boxes afterwards -/
noncomputable def laidB (B9 : List Int) (p : Nat) : List Int := (List.range 12).map (fun k => B9.getD k 0 + (bitN p k : Int)) ++ B9.drop 12
theorem row_len (B9 : List Int) (cell : Int) (p k : Nat) (hb : 0 ≤ B9.getD k 0 ∧ B9.getD k 0 ≤ 98) : (rowS B9 cell p k).length ≤ 200 := by
  show (rowN B9 cell p k).length ≤ 200
  unfold rowN bitN
  rw [List.length_append, List.length_replicate]
  have : (frontN cell p k).length ≤ 1 := len_front
  omega
end Mine
end
section
open PySem PySem.W PySem.Spec PySem.Calls PyProof.Rows
set_option maxRecDepth 100000
namespace Mine
/-! rules behind the loop of _law_laid -/
theorem dotsL_len : ∀ (b : Bool) (l : List Nat), (dotsL b l).length ≤ 2 * l.length
  | _, [] => Nat.zero_le _
  | b, c :: r => by
    rw [dotsL.eq_def]
    dsimp only
    split
    · have := dotsL_len false r
      simp only [List.length_cons]; omega
    · have := dotsL_len (c == 10) r
      simp only [List.length_cons]; omega
theorem dots_len (x : PySem.Str) : (dots x).length ≤ 2 * x.length := dotsL_len true x.cps.toList
theorem crlf_len' (x : PySem.Str) : (crlf x).length ≤ 2 * x.length := crlf_len _ x.cps.toList (Nat.le_refl _)
/-- a comp over a list of texts whose element keeps all: each turn knows that a token was drawn -/
noncomputable def StrTurns (prog : Program) (w : World) (A : Around) (h₀ : Heap) (env : Env) (elt : PySem.Expr) (x : PySem.Str) (scope : Scope) (cl : List (PySem.Str × Addr)) (g : PySem.Str → PySem.Str) (xs : List PySem.Str) : Prop :=
  ∀ y t C s₃ m₃ (E' : Value → Shared → Prop), y ∈ xs → Fr h₀ C s₃.heap m₃ → m₃ x = some (.str y t) → 1 ≤ s₃.toks →
    wpAny (model prog w) A (eval elt (compEnvC scope cl C env)) (fun z s₄ => (∃ u, z = .str (g y) u) ∧ Keeps s₃ s₄) E' s₃
noncomputable def StrSrc (prog : Program) (w : World) (A : Around) (h₀ : Heap) (L : Addr) (m : Names) (env : Env) (elt : PySem.Expr) (x : PySem.Str) (scope : Scope) (cl : List (PySem.Str × Addr)) (g : PySem.Str → PySem.Str) (Q : Value → Shared → Prop) (xv : Value) (s₁ : Shared) : Prop :=
  ∃ ax us xs k news, xv = .ref ax ∧ A.handled = none ∧ Fr h₀ L s₁.heap m ∧ News h₀ L s₁.heap news ∧ (ax, listOf (List.toArray us) k) ∈ news ∧ StrsAre us xs ∧ xs.length ≤ 1000 ∧ 1 ≤ s₁.toks ∧ StrTurns prog w A h₀ env elt x scope cl g xs ∧
    ∀ D ws n h' tk, StrsAre ws (xs.map g) → Fr h₀ L h' m → News h₀ L h' ((D, listOf (List.toArray ws) n) :: news) → LCg.Off1 D news → Q (.ref D) { s₁ with heap := h', toks := tk }
section
variable {prog : Program} {w : World} {A : Around} {E : Value → Shared → Prop} {s : Shared} {h₀ : Heap} {L : Addr} {m : Names} {env : Env}
theorem strs_at {us : List Value} {xs : List PySem.Str} (h : StrsAre us xs) : ∀ (i : Nat) v, us[i]? = some v → ∃ y t, v = .str y t ∧ xs[i]? = some y := by
  induction h with
  | nil => intro i v hv; simp at hv
  | cons y t _ ih =>
    intro i v hv
    cases i with
    | zero => exact ⟨y, t, (Option.some.inj hv).symm, rfl⟩
    | succ i => exact ih i v (by simpa using hv)
theorem paired_strs {g : PySem.Str → PySem.Str} {xs : List PySem.Str} : ∀ {vs : List Value} {ws : List Value} {ys : List PySem.Str}, StrsAre vs ys →
    Paired (fun v z => ∀ y t, v = .str y t → ∃ u, z = .str (g y) u) vs ws → StrsAre ws (ys.map g)
  | _, _, _, .nil, .nil => .nil
  | _, _, _, .cons y t r, .cons hf p => by
    obtain ⟨u, rfl⟩ := hf y t rfl
    exact .cons _ _ (paired_strs (xs := xs) r p)
theorem comp_strs {elt iter : PySem.Expr} {x : PySem.Str} {px : Pos} {scope : Scope} {cl : List (PySem.Str × Addr)} {pos : Pos} {Q : Value → Shared → Prop} (g : PySem.Str → PySem.Str) (_ : Fr h₀ L s.heap m)
    (hclos : closureFor scope env = pure cl) (hcell : ∀ y ∈ scope.names, y.2 ≠ .cell) (hkind : scope.kind = .function)
    (hnames : ∀ y ∈ scope.names, y.2 = .local → scope.names.lookup y.1 = some .local) (hx : scope.names.lookup x = some .local)
    (h : wpAny (model prog w) A (eval iter env) (StrSrc prog w A h₀ L m env elt x scope cl g Q) E s)
    (hs : ∀ x, foldedSetIterable iter env x = pure x := by intro _; rfl) :
    wpAny (model prog w) A (eval (.ListComp elt [⟨.Name x px, iter, [], 0⟩] scope pos) env) Q E s := by
  refine wpAny_ListComp_free (fun _ => true) (fun v z => ∀ y t, v = .str y t → ∃ u, z = .str (g y) u) hclos hcell hkind hnames hx (wpAny_mono h (fun xv s₁ h₁ => ?_) fun _ _ e => e) hs
  obtain ⟨ax, us, xs, k, news, rfl, hh, F, N, hm, hS, hz, ht, hT, hQ⟩ := h₁
  have hl : s₁.heap.IsList ax us.toArray := News.isList N hm
  have hlt : ax < s₁.heap.objs.size := by obtain ⟨_, e, _⟩ := hl; exact Heap.lt_size e
  have hsz : us.toArray.size ≤ sizeLine := strs_sz hS hz (Nat.le_refl _)
  refine wpAny_pyIter_list hl ?_
  refine ⟨_, _, _, _, _, _, rfl, Walks.list hh s₁.heap.objs.size ax (Nat.ne_of_lt hlt) us.toArray, hsz, ⟨⟨_, Heap.get?_push_size _ rfl, rfl, rfl⟩, hl.push _⟩, fun b hb => ?_, ⟨?_, ?_⟩, ?_⟩
  · show b < (s₁.heap.push _).objs.size
    rw [Heap.size_push]
    rcases List.mem_cons.mp hb with rfl | hb
    · exact Nat.lt_succ_self _
    · rw [List.mem_singleton.mp hb]; exact Nat.lt_succ_of_lt hlt
  · intro C i v s₃ m₃ E' _ _ _ _ _ _
    exact wpAny_tests_nil ⟨rfl, s₃.heap, s₃.toks, rfl, fun _ _ e => e⟩
  · intro C i v s₃ m₃ E' hC hv _ hn hx3 hk htk
    obtain ⟨y, t, rfl, hy⟩ := strs_at hS i v (by simpa using hv)
    have hC' : s₁.heap.objs.size + 1 ≤ C := by
      have : (s₁.heap.push { cls := .type "list_iterator", data := .fields #[.ref ax, .int 0 0] }).objs.size ≤ C := hC
      rwa [Heap.size_push] at this
    have hb0 : h₀.objs.size ≤ s₁.heap.objs.size := Nat.le_trans F.above (Nat.le_of_lt F.ns.lt)
    refine wpAny_mono (hT y t C s₃ m₃ E' (List.mem_of_getElem? hy) ⟨hn, fun b o e => hk b o ?_ (Heap.get?_push_of_some _ (F.keep b o e)), by omega⟩ hx3 (Nat.le_trans ht htk)) (fun z s₄ hz => ⟨fun y' t' e => ?_, hz.2⟩) fun _ _ e => e
    · rw [List.mem_singleton]
      intro e'
      have := Heap.lt_size (F.keep b o e)
      rw [e'] at this; exact absurd this (Nat.lt_irrefl _)
    · cases e; exact hz.1
  · intro D h' tk ys vs hD hl' hpl hlen hP hF hk
    obtain ⟨n, e⟩ := hpl
    have evs : vs = us := by
      refine List.ext_getElem? fun i => ?_
      cases hi : vs[i]? with
      | none =>
        have : vs.length ≤ i := List.getElem?_eq_none_iff.mp hi
        rw [hlen] at this
        exact (List.getElem?_eq_none_iff.mpr (by simpa using this)).symm
      | some v =>
        have h1 := hP i v hi
        rw [List.getElem?_toArray] at h1
        exact h1.symm
    have ef : vs.filter (fun _ => true) = us := by rw [evs]; exact List.filter_eq_self.mpr fun _ _ => rfl
    rw [ef] at hF
    have new : ∀ b o, s₁.heap.get? b = some o → b ≠ D := fun b o e0 e' => by
      subst e'
      exact absurd (hD.symm.trans (Heap.get?_push_of_some _ e0)) (fun h => nomatch h)
    have keep : ∀ b o, s₁.heap.get? b = some o → h'.get? b = some o := fun b o e => hk b o (by
      rw [List.mem_singleton]; intro e'
      have := Heap.lt_size e
      rw [e'] at this; exact absurd this (Nat.lt_irrefl _)) (Heap.get?_push_of_some _ e)
    have off : ∀ q ∈ news, (@Ne Nat q.1 D) := fun q hq => new _ _ (N q hq).1
    have offD : LCg.Off1 D news := by
      clear hQ hm N hT
      induction news with
      | nil => trivial
      | cons q r ih => exact ⟨off q (.head _), ih fun q hq => off q (.tail _ hq)⟩
    refine hQ D ys.toList n h' tk (paired_strs (xs := xs) hS hF) (F.keeps keep) (fun q hq => ?_) offD
    rcases List.mem_cons.mp hq with rfl | hq
    · obtain ⟨oL, _, _, eL, _⟩ := F.ns
      refine ⟨by rw [e], Ne.symm (new _ _ eL), ?_⟩
      cases h0 : h₀.get? D with
      | none => rfl
      | some o => exact absurd rfl (new _ _ (F.keep _ _ h0))
    · exact ⟨keep _ _ (N q hq).1, (N q hq).2⟩
end
end Mine
end
section
open PySem PySem.W PySem.Spec PySem.Calls PyProof.Rows
set_option maxRecDepth 100000
namespace Mine
/-! more rules: comps and operators over lists of texts -/
section
variable {prog : Program} {w : World} {A : Around} {h₀ : Heap} {L : Addr} {m : Names} {env : Env} {elt : PySem.Expr} {x : PySem.Str} {scope : Scope} {cl : List (PySem.Str × Addr)} {s : Shared} {S : Ledger → Prop} {Fin : List Value → Ledger → Prop} {news : Ledger}
theorem ints_of {g : PySem.Str → Int} : ∀ {ys : List Value} {xs : List PySem.Str}, ys.length = xs.length → (∀ (i : Nat) y, ys[i]? = some y → ∃ z, xs[i]? = some z ∧ ∃ t, y = .int (g z) t) → IntsAre ys (xs.map g)
  | [], [], _, _ => .nil
  | [], _ :: _, h, _ => nomatch h
  | _ :: _, [], h, _ => nomatch h
  | v :: r, z :: xs, hl, h => by
    obtain ⟨z', hz, t, rfl⟩ := h 0 v rfl
    cases (Option.some.inj hz : z = z')
    exact .cons _ _ (ints_of (by simpa using hl) fun i y hy => h (i + 1) y (by simpa using hy))
theorem rest_strs {us : List Value} {xs : List PySem.Str} (hS : StrsAre us xs) (g : PySem.Str → Int)
    (turn : ∀ y t I oI C oC D m₂ ys h tk (E' : Value → Shared → Prop), y ∈ xs → LCg.NsObj oC m₂ → m₂ x = some (.str y t) → Fr h₀ L h m → News h₀ L h ((I, oI) :: (C, oC) :: (D, LCg.lst ys) :: news) → LCg.Off3 I C D news → ((@Ne Nat I C) ∧ (@Ne Nat I D) ∧ (@Ne Nat C D)) →
      wpAny (model prog w) A (eval elt (compEnvC scope cl C env)) (LCg.CompEnd h₀ L m { s with heap := h, toks := tk } I oI C oC D (LCg.lst ys) S (fun z news' => REl news (fun z => ∃ t, z = .int (g y) t) z news')) E' { s with heap := h, toks := tk })
    (fin : ∀ ys, IntsAre ys (xs.map g) → Fin ys news) : LCg.CompRest prog w A h₀ L m env elt x scope cl s S (fun i v => us.toArray[i]? = some v) Fin us.toArray.size 0 [] news := by
  refine rest_rel (fun i z => ∃ y, xs[i]? = some y ∧ ∃ t, z = .int (g y) t) (fun i v I oI C oC D m₂ ys h tk E' hi hv hC hx F N off ne => ?_) (fun ys hl hr => ?_)
  · obtain ⟨y, t, rfl, hy⟩ := strs_at hS i v (by simpa using hv)
    refine wpAny_mono (turn y t I oI C oC D m₂ ys h tk E' (List.mem_of_getElem? hy) hC hx F N off ne) (fun z s₂ hq => ?_) fun _ _ e => e
    obtain ⟨h', tk', nw, e, F', N', off', hS', hn, hR⟩ := hq
    exact ⟨h', tk', nw, e, F', N', off', hS', hn, y, hy, hR⟩
  · refine fin ys (ints_of ?_ hr)
    rw [hl, List.size_toArray, hS.length]
end
theorem ks_canLayAll0 : ∀ ns : List PySem.Str, (∀ x ∈ ns, PyData.strOk x = true) → PyData.canLayAll0 (ns.map PyData.str) = true
  | [], _ => rfl
  | x :: r, h => by simp [PyData.canLayAll0, PyData.canLay0, ks_canLayAll0 r fun y hy => h y (.tail _ hy), h x (.head _)]
theorem ks_depthAll : ∀ ns : List PySem.Str, PyData.depthAll (ns.map PyData.str) = 0
  | [] => rfl
  | _ :: r => by simp [PyData.depthAll, PyData.depth, ks_depthAll r]
theorem ks_shaped (ns : List PySem.Str) (h : ∀ x ∈ ns, PyData.strOk x = true) : SeqAt.shaped (.list (ns.map PyData.str)) = true := by
  simp [SeqAt.shaped, PyData.canLay0, PyData.depth, ks_canLayAll0 ns h, ks_depthAll]
theorem ok_one {x : PySem.Str} {c : Nat} (h : x.cps.toList = [c]) (hc : c < 0x110000) : PyData.strOk x = true := by
  unfold PyData.strOk
  rw [← Array.all_toList, h]
  simp [hc]
theorem fronts_ok (cell : Int) (p : Nat) : ∀ x ∈ frontsL cell p 12 ++ [PySem.Str.ofString "", PySem.Str.ofString ""], PyData.strOk x = true := by
  have h0 : PyData.strOk (PySem.Str.ofString "") = true := by decide +kernel
  intro x hx
  rcases List.mem_append.mp hx with hx | hx
  · obtain ⟨k, _, rfl⟩ := List.mem_map.mp hx
    unfold frontS
    split
    · exact h0
    · rcases cover_cases cell with h | h | h | h <;> exact ok_one h (by decide)
  · simp only [List.mem_cons, List.not_mem_nil, or_false, or_self] at hx
    rw [hx]; exact h0
theorem ks_sameAll : ∀ ns : List PySem.Str, PySem.Spec.sameAll (ns.map PyData.str) (ns.map PyData.str) = true
  | [] => by simp [PySem.Spec.sameAll]
  | a :: r => by simp [PySem.Spec.sameAll, PySem.Spec.same, ks_sameAll r]
theorem ks_carried : ∀ {vs : List Value} {ns : List PySem.Str}, StrsAre vs ns → CarriedAll vs (ns.map PyData.str)
  | _, _, .nil => .nil
  | _, _, .cons _ t r => .cons (.str _ t) (ks_carried r)
section
variable {prog : Program} {w : World} {A : Around} {E : Value → Shared → Prop} {s : Shared} {a b : Addr} {xs ys : List Value} {ns ms : List PySem.Str} {Q : Value → Shared → Prop} {h₀ : Heap} {L : Addr} {m : Names} {news : Ledger} {na nb : Nat}
/-- two lists of the same texts -/
theorem ks_ne (N : News h₀ L s.heap news) (ha : (a, listOf (List.toArray xs) na) ∈ news) (hb : (b, listOf (List.toArray ys) nb) ∈ news) (hi : StrsAre xs ns) (hj : StrsAre ys ms) (e : ns = ms) (hok : ∀ x ∈ ns, PyData.strOk x = true) (hu : A.units + 64 < cLine) (h : Q (.bool false) s) :
    wpAny (model prog w) A (compareOp .NotEq (.ref a) (.ref b)) Q E s := by
  subst e
  refine ne_dataH_same (reads_newData (News.isList N ha) (ks_carried hi)) (reads_newData (News.isList N hb) (ks_carried hj)) (ks_shaped _ hok) (ks_shaped _ hok) hu (SeqAt.noMix_of_shape (.list .str) rfl _ _ (list_map_has fun _ => rfl) (list_map_has fun _ => rfl)) ?_
  have : PySem.Spec.same (.list (ns.map PyData.str)) (.list (ns.map PyData.str)) = true := by simp only [PySem.Spec.same]; exact ks_sameAll ns
  rw [this]; exact h
theorem add_strs (F : Fr h₀ L s.heap m) (N : News h₀ L s.heap news) (ha : (a, listOf (List.toArray xs) na) ∈ news) (hb : (b, listOf (List.toArray ys) nb) ∈ news) (hi : StrsAre xs ns) (hj : StrsAre ys ms) (hz : Nat.ble (ns.length + ms.length) 1000 = true)
    (h : ∀ D us h', Fr h₀ L h' m → News h₀ L h' ((D, listOf (List.toArray us) 0) :: news) → (∀ p ∈ news, p.1 < D) → StrsAre us (ns ++ ms) → Q (.ref D) { s with heap := h' }) : wpAny (model prog w) A (binaryOp .Add (.ref a) (.ref b)) Q E s := by
  refine kmk_add_lit F N (News.isList N ha) (News.isList N hb) rfl (fun D h' F' N' l1 => h D _ h' F' N' l1 (hi.append' hj)) ?_
  have := Nat.le_of_ble_eq_true hz
  have h1 := hi.length
  have h2 := hj.length
  rw [sizeLine_eq]
  simp only [List.toList_toArray]
  omega
theorem strs_take : ∀ {us : List Value} {xs : List PySem.Str} (k : Nat), StrsAre us xs → StrsAre (us.take k) (xs.take k)
  | _, _, 0, _ => .nil
  | _, _, _ + 1, .nil => .nil
  | _, _, k + 1, .cons x t r => .cons x t (strs_take k r)
theorem slice_strs {value slice : PySem.Expr} {us : List Value} {xs : List PySem.Str} {vl vu : Value} {l : Addr} {n : Nat} {hi : Int} (F : Fr h₀ L s.heap m) (N : News h₀ L s.heap news) (hm : (l, listOf (List.toArray us) n) ∈ news) (pl : IsPart vl none) (pu : IsPart vu (some hi)) (hS : StrsAre us xs) (h0 : 0 ≤ hi) (hz : Nat.ble xs.length 1000 = true)
    (h : ∀ D ws h', Fr h₀ L h' m → News h₀ L h' ((D, listOf (List.toArray ws) 0) :: news) → (∀ p ∈ news, p.1 < D) → StrsAre ws (xs.take hi.toNat) → Q (.ref D) { s with heap := h' })
    (hs : subscripted slice false (.ref l) (.ref s.heap.objs.size) = operate [.ref s.heap.objs.size, .ref l] (getItem (.ref l) (.ref s.heap.objs.size)) := by with_unfolding_all rfl) (ht : ∀ r, letTemporaryGo value (.ref l) r = pure () := by intro _; with_unfolding_all rfl) :
    wpAny (model prog w) A (subscriptTail value slice (.ref l) (.ref s.heap.objs.size)) Q E { s with heap := s.heap.push { cls := .type "slice", data := .fields #[vl, vu, .none] } } := by
  have e : sliceBounds none (some hi) none us.toArray.size = (((0 : Nat) : Int), ((min hi.toNat us.toArray.size : Nat) : Int), 1) := by
    simp only [sliceBounds, Option.getD_none, show (1 : Int) > 0 by decide, if_true, if_neg (show ¬ (hi < 0) by omega)]
    congr 1
    congr 1
    omega
  have e2 : (slicePick us.toArray none (some hi) none).toList = us.take hi.toNat := by
    rw [kmk_pick_nat _ e]
    show ((us.drop 0).take (min hi.toNat us.toArray.size - 0)) = _
    rw [List.drop_zero, Nat.sub_zero, List.size_toArray]
    rcases Nat.le_total hi.toNat us.length with h | h
    · rw [Nat.min_eq_left h]
    · rw [Nat.min_eq_right h, List.take_of_length_le (Nat.le_refl _), List.take_of_length_le h]
  refine kmk_slice_lit F N (News.isList N hm) pl pu e2 (fun D h' F' N' l1 => h D _ h' F' N' l1 (strs_take _ hS)) hs ht ?_
  exact strs_sz hS (Nat.le_of_ble_eq_true hz) (Nat.le_refl _)
/-- the rows of the mail -/
theorem laid_split {x : PySem.Str} {rows : List PySem.Str} {t u : Tok} (F : Fr h₀ L s.heap m) (N : News h₀ L s.heap news) (hr : Txt.split (dots (crlf x)) (PySem.Str.ofString "\r\n") = rows) (hx : x.length ≤ 2000) (hk : 1 ≤ s.toks)
    (h : ∀ D us h' k', 1 ≤ k' → StrsAre us rows → Fr h₀ L h' m → News h₀ L h' ((D, listOf (List.toArray us) 0) :: news) → (∀ p ∈ news, p.1 < D) → Q (.ref D) { s with heap := h', toks := k' }) :
    wpAny (model prog w) A (call (.builtin "str.split") [.str (dots (crlf x)) t, .str (PySem.Str.ofString "\r\n") u]) Q E s := by
  refine wpAny_with_toks (n := 1) hk (KSpl.split1 F N (by decide) (fun D l h' k' e hS F' N' l1 hk' => h D _ h' k' hk' (by rw [← hr, ← e]; exact hS) F' N' l1) ?_)
  have h1 := dots_len (crlf x)
  have h2 := crlf_len' x
  rw [sizeLine_eq]; omega
end
theorem getB_ok {B9 : List Int} (hb : ∀ b ∈ B9, 0 ≤ b ∧ b ≤ 98) (k : Nat) : 0 ≤ B9.getD k 0 ∧ B9.getD k 0 ≤ 98 := by
  rw [List.getD_eq_getElem?_getD]
  by_cases hk : k < B9.length
  · rw [List.getElem?_eq_getElem hk]; exact hb _ (List.getElem_mem hk)
  · rw [List.getElem?_eq_none (by omega)]; exact ⟨by decide, by decide⟩
theorem rows_len {B9 : List Int} {cell : Int} {p : Nat} (hb : ∀ b ∈ B9, 0 ≤ b ∧ b ≤ 98) {y : PySem.Str} (hy : y ∈ rowsS B9 cell p) : y.length ≤ 1048576 := by
  unfold rowsS at hy
  rcases List.mem_append.mp hy with h | h
  · obtain ⟨k, _, rfl⟩ := List.mem_map.mp h
    exact Nat.le_trans (row_len B9 cell p k (getB_ok hb k)) (by decide)
  · simp only [List.mem_cons, List.not_mem_nil, or_false, or_self] at h
    rw [h]; decide
theorem rows_count {B9 : List Int} {cell : Int} {p : Nat} : (rowsS B9 cell p).length = 14 := by unfold rowsS; simp
theorem laid_sum {B9 : List Int} {cell : Int} {p : Nat} (hb : ∀ b ∈ B9, 0 ≤ b ∧ b ≤ 98) : ((rowsS B9 cell p).take (12 : Int).toNat).map (fun y => Txt.count y (PySem.Str.ofString ".") - 1) ++ B9.drop (12 : Int).toNat = laidB B9 p := by
  have e : (rowsS B9 cell p).take (12 : Int).toNat = (List.range 12).map (rowS B9 cell p) := by
    unfold rowsS
    exact List.take_left' (by simp)
  rw [e, List.map_map]
  unfold laidB
  congr 1
  exact List.map_congr_left fun k _ => row_count B9 cell p k (getB_ok hb k).1
theorem tok_ne1 {k : Nat} (h : 1 ≤ k) : k ≠ 0 := by omega
theorem tok_ne2 {k : Nat} : k + 1 ≠ 0 := by omega
theorem tok_ne3 {k : Nat} : k ≠ k + 1 := by omega
theorem laid_fits {B9 : List Int} {cell : Int} {p : Nat} (hl : (mailS B9 cell p 12).length ≤ 1320) : (mailS B9 cell p 12 ++ endS cell 2).length ≤ 2000 := by
  have := len_end (cell := cell) (k := 2)
  rw [PySem.Str.length_append]; omega
theorem ints_len {vs : List Value} {ns : List Int} {k : Nat} (h : IntsAre vs ns) (hk : ns.length ≤ k) (hz : Nat.ble k 1000 = true) : vs.toArray.size ≤ sizeLine := kmk_sz h (Nat.le_trans hk (by have := Nat.le_of_ble_eq_true hz; rw [sizeLine_eq]; omega))
theorem laid_size {B9 : List Int} {cell : Int} {p : Nat} (hl : B9.length = 13) : (((rowsS B9 cell p).take (12 : Int).toNat).map (fun y => Txt.count y (PySem.Str.ofString ".") - 1)).length + (B9.drop (12 : Int).toNat).length ≤ sizeLine := by
  rw [sizeLine_eq, List.length_map, List.length_take, List.length_drop, rows_count, hl]; decide
theorem tail9 {a b c d e f g h i z : Prop} (x : a ∧ b ∧ c ∧ d ∧ e ∧ f ∧ g ∧ h ∧ i ∧ z) : z := x.2.2.2.2.2.2.2.2.2
end Mine
end
section
open PySem PySem.W PySem.Spec PySem.Calls PyProof.Rows
set_option maxRecDepth 100000
set_option maxHeartbeats 0
set_option pp.deepTerms.threshold 6
set_option pp.proofs.threshold 3
namespace Mine
theorem pat1_in {P : Params} {h : Heap} (X : (hd.heap_39 P).In h) : IsPat h 94 93 code1 :=
  ⟨⟨.str (PySem.Str.ofString "(?m)^\\.") 375, .int 40 388, .none, .none, X _ _ (by kernel_rfl)⟩, X _ _ (by kernel_rfl)⟩
theorem pat2_in {P : Params} {h : Heap} (X : (hd.heap_39 P).In h) : IsPat h 99 98 code2 :=
  ⟨⟨.str (PySem.Str.ofString "(?:\\r\\n|\\n|\\r(?!\\n))") 391, .int 32 430, .none, .none, X _ _ (by kernel_rfl)⟩, X _ _ (by kernel_rfl)⟩
section
variable {P : Params} {h₀ : Heap} {L : Addr} {m : Names} {A : Around} {M : Model} {E : Value → Shared → Prop} {s : Shared} {pl : Sem Bool} {Q : Value × List Value → Shared → Prop}
theorem getMethod_p1 (F : Fr h₀ L s.heap m) (X : (hd.heap_39 P).In h₀) (h : Q (.builtin "re.Pattern.sub", [.ref 94]) s) : wpAny M A (getMethod (.ref 94) (PySem.Str.ofString "sub") pl) Q E s :=
  getMethod_sub ((pat1_in X).keeps F.keep) h
theorem getMethod_p2 (F : Fr h₀ L s.heap m) (X : (hd.heap_39 P).In h₀) (h : Q (.builtin "re.Pattern.sub", [.ref 99]) s) : wpAny M A (getMethod (.ref 99) (PySem.Str.ofString "sub") pl) Q E s :=
  getMethod_sub ((pat2_in X).keeps F.keep) h
end
section
variable {P : Params} {prog : Program} {w : World} {A : Around} {E Q : Value → Shared → Prop} {s : Shared} {x : PySem.Str} {tx tr : Tok} {h₀ : Heap} {L : Addr} {m : Names} {news : Ledger}
theorem q_sub2 (F : Fr h₀ L s.heap m) (X : (hd.heap_39 P).In h₀) (N : News h₀ L s.heap news) (hx : x.length ≤ 524288)
    (hq : ∀ t h' tk', Fr h₀ L h' m → News h₀ L h' news → (crlf x).length ≤ 2 * x.length → Q (.str (crlf x) t) { s with heap := h', toks := tk' }) :
    wpAny (model prog w) A (call (.builtin "re.Pattern.sub") [.ref 99, .str (PySem.Str.ofString "\r\n") tr, .str x tx]) Q E s :=
  call_sub2 F N ((pat2_in X).keeps F.keep) hx hq
theorem q_sub1 (F : Fr h₀ L s.heap m) (X : (hd.heap_39 P).In h₀) (N : News h₀ L s.heap news) (hx : x.length ≤ 1048576)
    (hq : ∀ t h' tk', Fr h₀ L h' m → News h₀ L h' news → Q (.str (dots x) t) { s with heap := h', toks := tk' }) :
    wpAny (model prog w) A (call (.builtin "re.Pattern.sub") [.ref 94, .str (PySem.Str.ofString "..") tr, .str x tx]) Q E s :=
  call_sub1 F N ((pat1_in X).keeps F.keep) hx hq
end
theorem c_quotedata {w mean mg mb news} (x : PySem.Str) (tk : Tok) : CClaim w mean mg mb 2 106 news (fun _ => x.length ≤ 2000) [.str x tk]
   (fun h₀ L m s Q _E => ∀ (t : Tok) (h' : Heap) (tk' : Nat), Fr h₀ L h' m → News h₀ L h' news → Q (.str (dots (crlf x)) t) { s with heap := h', toks := tk' }) := by
  unfold CClaim
  k_fill
  w_top off
  k_with_none
  k_with "getMethod ref" => (k_here; (first | (refine' getMethod_p1 ?k1w0 ?k2w0 ?_) | (refine' getMethod_p2 ?k1w0 ?k2w0 ?_)); (case k1w0 => k_asm); (case k2w0 => k_asm))
  k_with "call builtin:re.Pattern.sub" => (k_here; first | (refine' q_sub2 ?k1w1 ?k2w1 ?k3w1 ?k4w1 ?_; (case k1w1 => k_asm); (case k2w1 => k_asm); (case k3w1 => k_asm); (case k4w1 => omega); intro _ _ _ F' N' _) | (refine' q_sub1 ?k1w1 ?k2w1 ?k3w1 ?k4w1 ?_; (case k1w1 => k_asm); (case k2w1 => k_asm); (case k3w1 => k_asm); (case k4w1 => omega); intro _ _ _ F' N'))
  intro dp un gd cn cs a ccd cl outer A₀ base h₀ L m s Q E B F X N T hk hx hd9 hu9 hret
  refine wpAny_call ?_
  k_dflt cell_enter
  k_steps
  all_goals exact hret _ _ _ (by k_asm) (by k_asm)
end Mine
end
section
open PySem PySem.W PySem.Spec PySem.Calls PyProof.Rows
set_option maxRecDepth 100000
set_option maxHeartbeats 0
set_option pp.deepTerms.threshold 6
set_option pp.proofs.threshold 3
namespace Mine
local macro_rules | `(tactic| kt_len) => `(tactic| first
  | ((with_reducible refine' KT.len_app ?kta ?ktb); (case kta => kt_len); (case ktb => kt_len))
  | with_reducible exact len_itemX
  | with_reducible exact len_end
  | with_reducible assumption
  | exact Nat.le_refl _)
theorem c_laid {w mean mg mb} {rest : Ledger} (lb : Addr) (vb : List Value) (B9 : List Int) (nb : Nat) (W : Array UInt8) (p : Nat) (cell : Int) (tw tc : Tok) :
  CClaim w mean mg mb 12 130 ((lb, listOf vb.toArray nb) :: rest)
   (fun _ => IntsAre vb B9 ∧ B9.length = 13 ∧ (∀ b ∈ B9, 0 ≤ b ∧ b ≤ 98) ∧ W.toList = ap16 p ∧ p < 4096 ∧ 0 ≤ cell ∧ cell < 100000000) [.ref lb, .bytes W tw, .int cell tc]
   (fun h₀ L m s Q _E => ∀ (D : Addr) (us : List Value) (h' : Heap) (tk' : Nat), Fr h₀ L h' m → News h₀ L h' ((D, listOf us.toArray 0) :: (lb, listOf vb.toArray nb) :: rest) →
      IntsAre us (laidB B9 p) → (lb < D ∧ AllLt D rest) → Q (.ref D) { s with heap := h', toks := tk' }) := by
  unfold CClaim
  k_fill
  w_top off
  k_with_none
  k_with "exec For Name Call cons nil" => (k_here; k_dflt (refine For_at ?_))
  k_with "call builtin:len" => (k_here; (with_reducible show wpAny _ _ (call (Value.builtin _) [Value.bytes _ _]) _ _ _); (refine ap_len_call (by with_reducible assumption) (by with_reducible assumption) ?_); intro _ _; (try dsimp only))
  k_with "subscriptTail Name BinOp bytes int" => (k_here; (refine ap_sub (by with_reducible assumption) (by with_reducible assumption) (by with_reducible assumption) ?_); intro _ _; (try dsimp only))
  k_with "binaryOp RShift int int" => (k_here; (with_reducible refine rshift_int ?kb1w3 ?_); (case kb1w3 => exact Int.fmod_nonneg_of_pos _ (by decide)); (try dsimp only))
  k_with "binaryOp Mod int int" => (k_here; (with_reducible refine mod_int' ?kb1w4 ?_); (case kb1w4 => decide); (try dsimp only))
  k_with "call builtin:list.append" => (k_here; k_dflt (refine' laid_append ?Fw5 ?Nw5 ?Uw5 ?zw5 ?_; (case Fw5 => k_asm); (case Nw5 => k_asm); (case Uw5 => exact laid_upd (by with_reducible assumption) (by with_reducible assumption)); (case zw5 => exact strs_sz (by with_reducible assumption) (Nat.le_refl _) (by rw [fronts_len]; exact Nat.le_trans (Nat.le_of_lt (by with_reducible assumption)) (by decide)))); intro h' F' N'; (try k_sweep); (try dsimp only))
  k_with "subscriptTail Constant BinOp str int" => (k_here; (refine cover_at ?_); intro _ _; (try dsimp only))
  k_with "subscriptTail Name Name ref int" => (k_here; k_dflt (first | (refine' front_at ?k1w7 ?k2w7 ?k3w7 ?k4w7 ?_ ?k5w7; (case k1w7 => k_asm); (case k2w7 => k_mem); (case k3w7 => with_reducible assumption); (case k4w7 => with_reducible assumption); (case k5w7 => with_unfolding_all rfl)) | (refine' box_at ?k1w7 ?k2w7 ?k3w7 ?k6w7 ?k4w7 ?_ ?k5w7; (case k1w7 => k_asm); (case k2w7 => k_mem); (case k3w7 => with_reducible assumption); (case k6w7 => with_reducible assumption); (case k4w7 => with_reducible assumption); (case k5w7 => with_unfolding_all rfl))); intro _; (try dsimp only))
  k_with "subscriptTail Name BinOp ref int" => (k_here; k_dflt (refine' end_at ?k1w8 ?k2w8 ?k3w8 ?_ ?k5w8; (case k1w8 => k_asm); (case k2w8 => k_mem); (case k3w8 => repeat constructor); (case k5w8 => with_unfolding_all rfl)); intro _; (try dsimp only))
  k_with "binaryOp Mult str int" => (k_here; (refine dots_at (by with_reducible assumption) ?_); intro _ _ _; (try dsimp only))
  k_with "binaryOp Add str str" => (k_here; (refine mail_add (add_z (by kt_len) (by kt_len) (by rfl)) ?_); intro _ _ _; (try dsimp only))
  k_with "inplaceOp Add str str" => (k_here; (refine mail_iadd (add_z (by kt_len) (by kt_len) (by rfl)) ?_); intro _ _ _; (try dsimp only))
  k_with "call ref" => (k_here; k_dflt (refine' c_quotedata _ _ _ _ _ _ _ _ _ _ _ _ _ _ _ _ _ _ _ ?k1w12 ?k2w12 ?k3w12 ?k4w12 ?k5w12 ?kKw12 ?kpw12 ?kdw12 ?kuw12 ?kRw12); (case k1w12 => k_asm); (case k2w12 => k_asm); (case k3w12 => k_asm); (case k4w12 => k_asm); (case k5w12 => k_asm); (case kKw12 => first | exact rfl | assumption); (case kpw12 => exact laid_fits (by with_reducible assumption)); (case kdw12 => ktr_room); (case kuw12 => ktr_units); intro t9 h9 tk9 F9 N9; (try dsimp only); (try k_fold))
  k_with "call builtin:str.split" => (k_here; k_dflt (refine' laid_split ?Fw13 ?Nw13 ?rw13 ?xw13 ?kw13 ?_; (case Fw13 => k_asm); (case Nw13 => k_asm); (case rw13 => exact laid_rows _ _ _ (by with_reducible assumption)); (case xw13 => exact laid_fits (by with_reducible assumption)); (case kw13 => exact Nat.le_add_left 1 _)); intro D' us' h' k' hk' hS' F' N' l1; (try k_lt l1); (try k_sweep); (try dsimp only))
  k_with "eval ListComp" => (k_here; first | ((with_reducible show wpAny _ _ (eval (Expr.ListComp (Expr.Call _ _ _ _) _ _ _) _) _ _ _); k_dflt (refine comp_strs (fun y => Txt.replace y (PySem.Str.ofString ".") (PySem.Str.ofString "")) (by k_asm) (by with_unfolding_all rfl) (by decide) (by rfl) (by decide) (by rfl) ?_)) | (k_dflt (refine LCg.ListComp_U (F₀ := by k_asm) (by with_unfolding_all rfl) (by decide) (by rfl) (by decide) (by rfl) ?_)))
  k_with "StrSrc" => (k_here; (refine' ⟨_, _, _, _, _, rfl, by rfl, ?Fw15, ?Nw15, ?hmw15, ?hSw15, ?hzw15, ?htw15, ?wdTw15, ?wdFw15⟩; (case Fw15 => k_asm); (case Nw15 => k_asm); (case hmw15 => k_mem); (case hSw15 => with_reducible assumption); (case hzw15 => (rw [rows_count]; decide)); (case htw15 => exact Nat.le_add_left 1 _); (case' wdTw15 => (intro y' t' C' s' m' E' hy' F' hm' ht'; have hy2 := rows_len (by with_reducible assumption) hy')); (case' wdFw15 => (intro D' ws' n' h' tk' hS' F' N' off'; (simp only [LCg.Off1, and_true] at off'); (try dsimp only)))))
  k_with "storeName" => (k_here; (with_reducible show wpAny _ _ (storeName _ (PySem.Str.ofString "rows") _) _ _ _); k_dflt (refine' storeX_L ?Fw16 ?Nw16 ?_ ?aw16 ?bw16; (case Fw16 => k_asm); (case Nw16 => k_asm); (case aw16 => rfl); (case bw16 => rfl); k_whole; intro h' F' N'); (try dsimp only))
  k_with "execs cons If" => (k_here; (with_reducible refine wpAny_execs_cons ?_); (try dsimp only))
  k_with "eval Name" => (k_here; (with_reducible show wpAny _ _ (eval (Expr.Name (PySem.Str.ofString "row") _) _) _ _ _); k_dflt (refine' ldVarK (Fr.ns ?Fw18) ?vw18 ?_ ?aw18 ?bw18 ?cw18; (case Fw18 => assumption); (case vw18 => assumption); (case aw18 => rfl); (case bw18 => rfl); (case cw18 => decide)))
  k_with "call builtin:str.replace" => (k_here; (refine SC.replaceW (tok_ne1 (by with_reducible assumption)) tok_ne2 tok_ne3 (by decide +kernel) (by with_reducible assumption) (by decide +kernel) ?_); intro _ _; (try dsimp only))
  k_with "call builtin:str.count" => (k_here; (refine SC.count ?_); (try dsimp only))
  k_with "binaryOp Add ref ref" => (k_here; (with_reducible show wpAny _ _ (binaryOp _ (Value.ref _) (Value.ref _)) _ _ _); k_dflt (first | (refine' add_strs ?Fw21 ?Nw21 ?aw21 ?bw21 ?iw21 ?jw21 ?zw21 ?_; (case Fw21 => k_asm); (case Nw21 => k_asm); (case aw21 => k_mem); (case bw21 => k_mem); (case iw21 => with_reducible assumption); (case jw21 => repeat constructor); (case zw21 => (rw [fronts_len]; rfl)); intro D' us' h' F' N' l1 hS'; (try k_lt l1); (try k_sweep); (try dsimp only)) | (refine' kmk_add_ints ?Fw21 ?Nw21 ?aw21 ?bw21 ?iw21 ?jw21 ?_ ?zw21; (case Fw21 => k_asm); (case Nw21 => k_asm); (case aw21 => exact News.isList (by k_asm) (by k_mem)); (case bw21 => exact News.isList (by k_asm) (by k_mem)); (case iw21 => with_reducible assumption); (case jw21 => with_reducible assumption); (case zw21 => exact laid_size (by with_reducible assumption)); intro D' ws' h' F' N' l1 hI'; (try k_lt l1); (try k_sweep); (try dsimp only))))
  k_with "compareOp NotEq ref ref" => (k_here; k_dflt (refine' ks_ne ?Nw22 ?aw22 ?bw22 ?iw22 ?jw22 ?ew22 ?ow22 ?uw22 ?_; (case Nw22 => k_asm); (case aw22 => k_mem); (case bw22 => k_mem); (case iw22 => with_reducible assumption); (case jw22 => with_reducible assumption); (case ew22 => exact rows_replaced _ _ _); (case ow22 => (rw [rows_replaced]; exact fronts_ok _ _)); (case uw22 => ktr_units)); (try dsimp only))
  k_with "subscriptTail Name Slice ref ref" => (k_here; k_dflt (first | ((with_reducible show wpAny _ _ (subscriptTail _ (PySem.Expr.Slice none (some _) none _) (Value.ref _) (Value.ref _)) _ _ _); (refine' slice_strs (s := ⟨_, _, _, _, _⟩) ?Fw23 ?Nw23 ?mw23 ?pw23 ?qw23 ?iw23 ?zw23 ?bw23 ?_ ?sw23 ?tw23; (case Fw23 => k_asm); (case Nw23 => k_asm); (case mw23 => k_mem); (case pw23 => kmk_part); (case qw23 => kmk_part); (case iw23 => with_reducible assumption); (case zw23 => decide); (case bw23 => (rw [rows_count]; rfl)); (case sw23 => with_unfolding_all rfl); (case tw23 => kmk_pure)); intro D' ws' h' F' N' l1 hS'; (try k_lt l1); (try k_sweep); (try dsimp only)) | (refine' kmk_slice_ints ?Fw23 ?Nw23 ?lw23 ?pw23 ?qw23 ?iw23 ?mw23 ?cw23 ?_ ?sw23 ?tw23 ?zw23; (case Fw23 => k_asm); (case Nw23 => k_asm); (case lw23 => exact News.isList (by k_asm) (by k_mem)); (case pw23 => kmk_part); (case qw23 => kmk_part); (case iw23 => with_reducible assumption); (case mw23 => exact kmk_from (by with_reducible assumption) (by decide)); (case cw23 => exact rfl); (case sw23 => with_unfolding_all rfl); (case tw23 => kmk_pure); (case zw23 => exact ints_len (by with_reducible assumption) (Nat.le_of_eq (by with_reducible assumption)) (by rfl)); intro D' ws' h' F' N' l1 hI' _ hL'; (try k_lt l1); (try k_sweep); (try dsimp only))))
  k_with "CompSrc" => (k_here; k_dflt (refine LCg.CompSrc.ledger (by rfl) (by k_asm) (by k_asm) (by k_mem) (strs_sz (by with_reducible assumption) (Nat.le_refl _) (by rw [List.length_take, rows_count]; decide)) ?_; intro g'; (refine' rest_strs (by with_reducible assumption) (fun y => Txt.count y (PySem.Str.ofString ".") - 1) ?wdTw24 ?wdFw24); (case' wdTw24 => (intro y' t' I' oI' C' oC' D' m' ys' h' tk' E' hy' hC' hx' F' N' off' ne'; (simp only [LCg.Off3, and_true] at off'))); (case' wdFw24 => (intro ys' hI'))))
  k_with "CompEnd" => (plain_pass; (refine' end_rel ?Fw25 ?Nw25 ?subw25 ?offw25 ?Sw25 ⟨_, rfl⟩); (case Fw25 => k_asm); (case Nw25 => k_asm); (case subw25 => first | kcf_all); (case offw25 => first | assumption | (simp only [LCg.Off3, and_true]; done) | (simp only [LCg.Off3, and_true]; assumption)); (case Sw25 => first | lcg_src | assumption))
  intro dp un gd cn cs a ccd cl outer A₀ base h₀ L m s Q E B F X N T hk hx hd9 hu9 hret
  obtain ⟨iB, lB, bB, hW, hp, hc0, hc1⟩ := hx
  refine wpAny_call ?_
  k_dflt cell_enter
  k_steps
  with_reducible rename IsRange _ _ _ _ _ _ _ _ => R1
  rename Fr _ _ _ _ => F1
  rename News _ _ _ _ => N1
  refine' laid_for (p := p) (B9 := B9) ?hE ?hh F1 (news_tail N1) R1 ?e1 ?e2 ?e3 ?e4 ?e5 ?e6 ?turn ?fin
  case hE => passes_own
  case hh => exact rfl
  case e1 => exact rfl
  case e2 => exact rfl
  case e3 => exact rfl
  case e4 => exact rfl
  case e5 => exact rfl
  case e6 => exact rfl
  case turn =>
    intro i t' I it h tk m₁ mail tm vf nf hi hidx hS hm hl F' N' l1
    clear F1 N1 R1
    have hl2 : mail.length ≤ 1320 := Nat.le_trans hl (Nat.mul_le_mul_left 110 (Nat.le_of_lt hi))
    k_steps
    all_goals (dsimp only)
    all_goals (
      refine' laid_end (mail := mail) ?F ?N (fun q hq => hq) ?lt ?n1 ?n2 ?n3 ?n4 ?n5 ?n6 ?hS ?hy ?hm ?hl ?hd
      (case F => k_asm)
      (case N => k_asm)
      (case lt => assumption)
      (case n1 => exact rfl)
      (case n2 => exact rfl)
      (case n3 => exact rfl)
      (case n4 => exact rfl)
      (case n5 => exact rfl)
      (case n6 => exact rfl)
      (case hS => assumption)
      (case hy => first | exact fig_one (by with_reducible assumption) | exact fig_nil (by with_reducible assumption) | exact fig_past (by with_reducible assumption) (by with_reducible assumption) | exact zero_ne (by with_reducible assumption))
      (case hm => assumption)
      (case hl => assumption)
      (case hd => assumption))
  case fin =>
    intro h tk m₁ mail tm vf nf hS hm hl F' N'
    clear F1 N1 R1
    subst hm
    k_steps
    all_goals first
      | exact ⟨_, _, rfl, fun _ _ e => e⟩
      | (refine' hret _ _ _ _ ?eF ?eN ?eI ?eL
         (case eF => k_asm)
         (case eN => (refine' cb_drop ?cbN ?cbS; (case cbN => assumption); (case cbS => kcj_all)))
         (case eI => (rw [← laid_sum bB]; assumption))
         (case eL => exact tail9 (by assumption)))
end Mine
end
section
open PySem PySem.W PySem.Spec PySem.Calls PyProof.Rows
set_option maxRecDepth 100000
set_option maxHeartbeats 0
set_option pp.deepTerms.threshold 6
set_option pp.proofs.threshold 3
namespace Mine
noncomputable def carryB (b : List Int) (k : Int) : List Int := List.take k.toNat b ++ [(b.getD k.toNat 0).fmod 2, b.getD (k + 1).toNat 0 + (b.getD k.toNat 0).fdiv 2] ++ List.drop (k + 2).toNat b
noncomputable def carryG (b g : List Int) (k : Int) : List Int := List.take k.toNat g ++ [g.getD k.toNat 0 + (b.getD k.toNat 0).fdiv 2] ++ List.drop (k + 1).toNat g
theorem left0 {b : List Int} {k : Int} {sg : PySem.Str} {ws : List Value} (h0 : 0 ≤ b.getD k.toNat 0) (h1 : b.getD k.toNat 0 ≤ 100) (hs : SignOk sg)
    (h : (Txt.slice (toldS (b.getD k.toNat 0) sg) (some ((b.getD k.toNat 0).fdiv 2)) none == sg) = true) (hI : IntsAre ws (List.take k.toNat b ++ [0, b.getD (k + 1).toNat 0 + (b.getD k.toNat 0).fdiv 2] ++ List.drop (k + 2).toNat b)) : IntsAre ws (carryB b k) := by
  rw [told_rest h0 h1 hs, decide_eq_true_eq] at h
  unfold carryB; rw [h]; exact hI
theorem left1 {b : List Int} {k : Int} {sg : PySem.Str} {ws : List Value} (h0 : 0 ≤ b.getD k.toNat 0) (h1 : b.getD k.toNat 0 ≤ 100) (hs : SignOk sg)
    (h : ¬ (Txt.slice (toldS (b.getD k.toNat 0) sg) (some ((b.getD k.toNat 0).fdiv 2)) none == sg) = true) (hI : IntsAre ws (List.take k.toNat b ++ [1, b.getD (k + 1).toNat 0 + (b.getD k.toNat 0).fdiv 2] ++ List.drop (k + 2).toNat b)) : IntsAre ws (carryB b k) := by
  rw [told_rest h0 h1 hs, decide_eq_true_eq] at h
  have h2 : (b.getD k.toNat 0).fmod 2 = 1 := by
    have := Int.fmod_nonneg_of_pos (b.getD k.toNat 0) (b := 2) (by decide)
    have := Int.fmod_lt_of_pos (b.getD k.toNat 0) (b := 2) (by decide)
    omega
  unfold carryB; rw [h2]; exact hI
theorem left1' {b : List Int} {k : Int} {sg : PySem.Str} {ws : List Value} (h0 : 0 ≤ b.getD k.toNat 0) (h1 : b.getD k.toNat 0 ≤ 100) (hs : SignOk sg)
    (h : (Txt.slice (toldS (b.getD k.toNat 0) sg) (some ((b.getD k.toNat 0).fdiv 2)) none == sg) = false) (hI : IntsAre ws (List.take k.toNat b ++ [1, b.getD (k + 1).toNat 0 + (b.getD k.toNat 0).fdiv 2] ++ List.drop (k + 2).toNat b)) : IntsAre ws (carryB b k) :=
  left1 h0 h1 hs (by rw [h]; decide) hI
theorem c_carried {w mean mg mb} {rest : Ledger} (lb lg : Addr) (vb vg : List Value) (B9 G9 : List Int) (nb ng : Nat) (k : Int) (sg : PySem.Str) (tk ts : Tok) :
  CClaim w mean mg mb 4 137 ((lb, listOf vb.toArray nb) :: (lg, listOf vg.toArray ng) :: rest)
   (fun _ => IntsAre vb B9 ∧ IntsAre vg G9 ∧ B9.length = 13 ∧ G9.length = 12 ∧ 0 ≤ k ∧ k < 12 ∧ 0 ≤ B9.getD k.toNat 0 ∧ B9.getD k.toNat 0 ≤ 100 ∧ SignOk sg) [.ref lb, .ref lg, .int k tk, .str sg ts]
   (fun h₀ L m s Q _E => ∀ (D lb' lg' : Addr) (vb' vg' : List Value) (h' : Heap) (tk' : Nat), Fr h₀ L h' m →
      News h₀ L h' ((D, { cls := .type "tuple", data := .seq #[.ref lb', .ref lg'] }) :: (lb', listOf vb'.toArray 0) :: (lg', listOf vg'.toArray 0) :: (lb, listOf vb.toArray nb) :: (lg, listOf vg.toArray ng) :: rest) →
      IntsAre vb' (carryB B9 k) → IntsAre vg' (carryG B9 G9 k) → (lb < lb' ∧ lg < lb' ∧ AllLt lb' rest) → lb' < lg' → lg' < D → Q (.ref D) { s with heap := h', toks := tk' }) := by
  unfold CClaim
  k_fill
  w_top off
  k_with_none
  k_with "call ref" => (k_here; k_dflt (refine' c_told _ _ _ _ _ _ _ _ _ _ _ _ _ _ _ _ _ _ _ _ ?k1w0 ?k2w0 ?k3w0 ?k4w0 ?k5w0 ?kKw0 ?kpw0 ?kdw0 ?kuw0 ?kRw0); (case k1w0 => k_asm); (case k2w0 => k_asm); (case k3w0 => k_asm); (case k4w0 => k_asm); (case k5w0 => k_asm); (case kKw0 => first | exact rfl | assumption); (case kpw0 => exact ⟨by with_reducible assumption, by with_reducible assumption, by with_reducible assumption⟩); (case kdw0 => ktr_room); (case kuw0 => ktr_units); intro t9 h9 tk9 F9 N9; (try dsimp only); (try k_fold))
  k_with "call builtin:str.count" => (k_here; (refine call_told_count (by with_reducible assumption) (by with_reducible assumption) (by with_reducible assumption) ?_); intro _ _)
  k_with "subscriptTail Name Slice ref ref" => (k_here; (with_reducible show wpAny _ _ (subscriptTail _ (PySem.Expr.Slice _ _ none _) (Value.ref _) (Value.ref _)) _ _ _); k_dflt (refine' kmk_slice_ints ?Fw2 ?Nw2 ?lw2 ?pw2 ?qw2 ?iw2 ?mw2 ?cw2 ?_ ?sw2 ?tw2 ?zw2; (case Fw2 => k_asm); (case Nw2 => k_asm); (case lw2 => exact News.isList (by k_asm) (by k_mem)); (case pw2 => kmk_part); (case qw2 => kmk_part); (case iw2 => with_reducible assumption); (case mw2 => first | exact kmk_upto (by with_reducible assumption) (by omega) | exact kmk_from (by with_reducible assumption) (by omega)); (case cw2 => exact rfl); (case sw2 => with_unfolding_all rfl); (case tw2 => kmk_pure); (case zw2 => with_reducible assumption)); intro D' ws' h' F' N' l1 hI' _ hL'; (try k_lt l1); (try k_sweep))
  k_with "binaryOp Add ref ref" => (k_here; (with_reducible show wpAny _ _ (binaryOp _ (Value.ref _) (Value.ref _)) _ _ _); k_dflt (refine' kmk_add_ints ?Fw3 ?Nw3 ?aw3 ?bw3 ?iw3 ?jw3 ?_ ?zw3; (case Fw3 => k_asm); (case Nw3 => k_asm); (case aw3 => exact News.isList (by k_asm) (by k_mem)); (case bw3 => exact News.isList (by k_asm) (by k_mem)); (case iw3 => l_ints); (case jw3 => l_ints); (case zw3 => (rw [sizeLine_eq]; simp only [List.length_append, List.length_cons, List.length_nil, List.length_take, List.length_drop]; omega))); intro D' ws' h' F' N' l1 hI'; (try k_lt l1); (try k_sweep))
  intro dp un gd cn cs a ccd cl outer A₀ base h₀ L m s Q E B F X N T hk hx hd9 hu9 hret
  obtain ⟨iB, iG, lB, lG, hk0, hk1, hb0, hb1, hs1⟩ := hx
  have hl1 : sg.length = 1 := by obtain ⟨c, e, _⟩ := hs1; show sg.cps.toList.length = 1; rw [e]; rfl
  have zB : vb.toArray.size ≤ sizeLine := kmk_sz iB (by rw [sizeLine_eq, lB]; decide)
  have zG : vg.toArray.size ≤ sizeLine := kmk_sz iG (by rw [sizeLine_eq, lG]; decide)
  have hl2 := told_len hb0 hb1 hs1
  refine wpAny_call ?_
  k_dflt cell_enter
  k_steps
  all_goals (
    refine' hret _ _ _ _ _ _ _ ?eF ?eN ?eB ?eG ?e1 ?e2 ?e3
    (case eF => k_asm)
    (case eN => (refine' cb_drop ?cbN ?cbS; (case cbN => assumption); (case cbS => kcj_all)))
    (case eB => first | exact left0 (by assumption) (by assumption) (by assumption) (by assumption) (by assumption) | exact left1 (by assumption) (by assumption) (by assumption) (by assumption) (by assumption) | exact left1' (by assumption) (by assumption) (by assumption) (by assumption) (by assumption))
    (case eG => assumption)
    (case e1 => exact ⟨ltN (by omega), ltN (by omega), by first | exact (by assumption) | exact (And.right (by assumption)) | exact (And.right (And.right (by assumption))) | exact (And.right (And.right (And.right (by assumption)))) | exact (And.right (And.right (And.right (And.right (by assumption))))) | exact (And.right (And.right (And.right (And.right (And.right (by assumption)))))) | exact (And.right (And.right (And.right (And.right (And.right (And.right (by assumption))))))) | exact (And.right (And.right (And.right (And.right (And.right (And.right (And.right (by assumption)))))))) | exact (And.right (And.right (And.right (And.right (And.right (And.right (And.right (And.right (by assumption))))))))) | exact (And.right (And.right (And.right (And.right (And.right (And.right (And.right (And.right (And.right (by assumption)))))))))) | exact (And.right (And.right (And.right (And.right (And.right (And.right (And.right (And.right (And.right (And.right (by assumption))))))))))) | exact (And.right (And.right (And.right (And.right (And.right (And.right (And.right (And.right (And.right (And.right (And.right (by assumption)))))))))))) | exact (And.right (And.right (And.right (And.right (And.right (And.right (And.right (And.right (And.right (And.right (And.right (And.right (by assumption))))))))))))) | exact (And.right (And.right (And.right (And.right (And.right (And.right (And.right (And.right (And.right (And.right (And.right (And.right (And.right (by assumption)))))))))))))) | exact (And.right (And.right (And.right (And.right (And.right (And.right (And.right (And.right (And.right (And.right (And.right (And.right (And.right (And.right (by assumption)))))))))))))))⟩)
    (case e2 => exact ltN (by omega))
    (case e3 => exact ltN (by omega)))
end Mine
end
section
open PySem PySem.W PySem.Spec PySem.Calls PyProof.Rows
set_option maxRecDepth 100000
namespace Mine
/-! the plain law: what the boxes hold -/
noncomputable def Mw (B : List Int) : Nat → Int
  | 0 => B.getD 0 0
  | k + 1 => Mw B k + B.getD (k + 1) 0 * ((2 ^ (k + 1) : Nat) : Int)
noncomputable def Rw (ps : List Nat) (k : Nat) : Nat := (ps.map fun p => p % 2 ^ (k + 1)).sum
structure Inv (ps : List Nat) (B G : List Int) : Prop where
  lB : B.length = 13
  lG : G.length = 12
  nB : ∀ j, 0 ≤ B.getD j 0
  nG : ∀ j, 0 ≤ G.getD j 0
  low : ∀ k, k < 12 → G.getD k 0 * ((2 ^ (k + 1) : Nat) : Int) + Mw B k = (Rw ps k : Int)
  top : Mw B 12 = (ps.sum : Int)
theorem getD_rep (n j : Nat) : (List.replicate n (0 : Int)).getD j 0 = 0 := by
  rw [List.getD_eq_getElem?_getD, List.getElem?_replicate]
  split <;> rfl
theorem Mw_zero (n : Nat) : ∀ k, Mw (List.replicate n (0 : Int)) k = 0
  | 0 => getD_rep n 0
  | k + 1 => by
    show Mw _ k + (List.replicate n (0 : Int)).getD (k + 1) 0 * _ = 0
    rw [Mw_zero n k, getD_rep]; simp
theorem Inv.start : Inv [] (List.replicate 13 0) (List.replicate 12 0) where
  lB := rfl
  lG := rfl
  nB := fun j => by rw [getD_rep]; decide
  nG := fun j => by rw [getD_rep]; decide
  low := fun k _ => by rw [getD_rep, Mw_zero]; simp [Rw]
  top := Mw_zero 13 12
theorem laid_getD {B : List Int} {p j : Nat} (hB : B.length = 13) : (laidB B p).getD j 0 = if j < 12 then B.getD j 0 + (bitN p j : Int) else B.getD j 0 := by
  unfold laidB
  by_cases hj : j < 12
  · rw [if_pos hj, List.getD_eq_getElem?_getD, List.getElem?_append_left (by simp; exact hj), List.getElem?_map, List.getElem?_range hj]
    rfl
  · rw [if_neg hj, List.getD_eq_getElem?_getD, List.getElem?_append_right (by simp; omega), List.getElem?_drop, List.getD_eq_getElem?_getD]
    congr 2
    simp; omega
theorem mod_succ (p k : Nat) : p % 2 ^ (k + 1) = p % 2 ^ k + 2 ^ k * (p / 2 ^ k % 2) := by
  rw [Nat.pow_succ, Nat.mod_mul]
theorem laid_Mw {B : List Int} {p : Nat} (hB : B.length = 13) : ∀ k, k < 12 → Mw (laidB B p) k = Mw B k + ((p % 2 ^ (k + 1) : Nat) : Int)
  | 0, _ => by
    show (laidB B p).getD 0 0 = B.getD 0 0 + _
    rw [laid_getD hB, if_pos (by decide)]
    unfold bitN; simp
  | k + 1, h => by
    show Mw (laidB B p) k + (laidB B p).getD (k + 1) 0 * _ = Mw B k + B.getD (k + 1) 0 * _ + _
    rw [laid_Mw hB k (by omega), laid_getD hB, if_pos h, mod_succ p (k + 1), Int.add_mul]
    unfold bitN
    push_cast
    have : ((p : Int) / 2 ^ (k + 1) % 2) * 2 ^ (k + 1) = 2 ^ (k + 1) * ((p : Int) / 2 ^ (k + 1) % 2) := Int.mul_comm _ _
    rw [this]
    omega
theorem Inv.lay {ps : List Nat} {B G : List Int} {p : Nat} (h : Inv ps B G) (hp : p < 4096) : Inv (ps ++ [p]) (laidB B p) G where
  lB := by unfold laidB; rw [List.length_append, List.length_drop, h.lB]; simp
  lG := h.lG
  nB := fun j => by
    rw [laid_getD h.lB]
    have := h.nB j
    split <;> omega
  nG := h.nG
  low := fun k hk => by
    have := h.low k hk
    rw [laid_Mw h.lB k hk]
    unfold Rw at this ⊢
    rw [List.map_append, List.sum_append]
    simp only [List.map_cons, List.map_nil, List.sum_cons, List.sum_nil]
    push_cast at this ⊢
    omega
  top := by
    have := h.top
    have h1 : Mw (laidB B p) 12 = Mw (laidB B p) 11 + (laidB B p).getD 12 0 * ((2 ^ 12 : Nat) : Int) := rfl
    have h2 : Mw B 12 = Mw B 11 + B.getD 12 0 * ((2 ^ 12 : Nat) : Int) := rfl
    rw [h1, laid_Mw h.lB 11 (by decide), laid_getD h.lB, if_neg (by decide), List.sum_append]
    rw [h2] at this
    have e : p % 2 ^ (11 + 1) = p := Nat.mod_eq_of_lt hp
    rw [e]
    simp only [List.sum_cons, List.sum_nil]
    push_cast at this ⊢
    omega
theorem carry_getD {B : List Int} {k : Int} {j : Nat} (hB : B.length = 13) (h0 : 0 ≤ k) (h1 : k < 12) :
    (carryB B k).getD j 0 = if j = k.toNat then (B.getD k.toNat 0).fmod 2 else if j = k.toNat + 1 then B.getD (k.toNat + 1) 0 + (B.getD k.toNat 0).fdiv 2 else B.getD j 0 := by
  obtain ⟨n, rfl⟩ : ∃ n : Nat, k = (n : Int) := ⟨k.toNat, by omega⟩
  have e1 : ((n : Int) + 1).toNat = n + 1 := by omega
  have e2 : ((n : Int) + 2).toNat = n + 2 := by omega
  unfold carryB
  rw [e1, e2, Int.toNat_natCast]
  have hl : (List.take n B).length = n := by rw [List.length_take, hB]; omega
  rcases Nat.lt_trichotomy j n with h | h | h
  · rw [if_neg (by omega), if_neg (by omega), List.getD_eq_getElem?_getD, List.append_assoc, List.getElem?_append_left (by omega), List.getElem?_take_of_lt h, List.getD_eq_getElem?_getD]
  · rw [if_pos h, List.getD_eq_getElem?_getD, List.append_assoc, List.getElem?_append_right (by omega), hl, h, Nat.sub_self]; rfl
  · rw [if_neg (by omega)]
    by_cases h2 : j = n + 1
    · rw [if_pos h2, List.getD_eq_getElem?_getD, List.append_assoc, List.getElem?_append_right (by omega), hl, h2, Nat.add_sub_cancel_left]; rfl
    · rw [if_neg h2, List.getD_eq_getElem?_getD, List.append_assoc, List.getElem?_append_right (by omega), hl, List.getElem?_append_right (by simp; omega), List.getElem?_drop, List.getD_eq_getElem?_getD]
      congr 2
      simp; omega
theorem carryG_getD {B G : List Int} {k : Int} {j : Nat} (hG : G.length = 12) (h0 : 0 ≤ k) (h1 : k < 12) :
    (carryG B G k).getD j 0 = if j = k.toNat then G.getD j 0 + (B.getD j 0).fdiv 2 else G.getD j 0 := by
  obtain ⟨n, rfl⟩ : ∃ n : Nat, k = (n : Int) := ⟨k.toNat, by omega⟩
  have e1 : ((n : Int) + 1).toNat = n + 1 := by omega
  unfold carryG
  rw [e1, Int.toNat_natCast]
  have hl : (List.take n G).length = n := by rw [List.length_take, hG]; omega
  rcases Nat.lt_trichotomy j n with h | h | h
  · rw [if_neg (by omega), List.getD_eq_getElem?_getD, List.append_assoc, List.getElem?_append_left (by omega), List.getElem?_take_of_lt h, List.getD_eq_getElem?_getD]
  · rw [if_pos h, List.getD_eq_getElem?_getD, List.append_assoc, List.getElem?_append_right (by omega), hl, h, Nat.sub_self]; rfl
  · rw [if_neg (by omega), List.getD_eq_getElem?_getD, List.append_assoc, List.getElem?_append_right (by omega), hl, List.getElem?_append_right (by simp; omega), List.getElem?_drop, List.getD_eq_getElem?_getD]
    congr 2
    simp; omega
theorem half_eq (x : Int) : x.fmod 2 + x.fdiv 2 * 2 = x := by
  have := Int.fmod_add_mul_fdiv x 2
  rw [Int.mul_comm] at this
  exact this
theorem half_nn {x : Int} (h : 0 ≤ x) : 0 ≤ x.fdiv 2 := by rw [Int.fdiv_eq_ediv_of_nonneg _ (by decide)]; omega
theorem carry_Mw {B : List Int} {k : Int} (hB : B.length = 13) (h0 : 0 ≤ k) (h1 : k < 12) : ∀ j, Mw (carryB B k) j = if j = k.toNat then Mw B j - (B.getD k.toNat 0).fdiv 2 * ((2 ^ (k.toNat + 1) : Nat) : Int) else Mw B j := by
  obtain ⟨n, rfl⟩ : ∃ n : Nat, k = (n : Int) := ⟨k.toNat, by omega⟩
  rw [Int.toNat_natCast]
  have hg := fun j => carry_getD (B := B) (k := (n : Int)) (j := j) hB h0 h1
  rw [Int.toNat_natCast] at hg
  have hh := half_eq (B.getD n 0)
  intro j
  induction j with
  | zero =>
    show (carryB B n).getD 0 0 = _
    rw [hg]
    by_cases hn : 0 = n
    · subst hn
      rw [if_pos rfl, if_pos rfl]
      show _ = B.getD 0 0 - _
      simp only [Nat.zero_add, Nat.pow_one]
      push_cast
      omega
    · rw [if_neg hn, if_neg (by omega), if_neg hn]; rfl
  | succ j ih =>
    show Mw (carryB B n) j + (carryB B n).getD (j + 1) 0 * _ = _
    rw [ih, hg]
    show _ = if j + 1 = n then Mw B j + B.getD (j + 1) 0 * _ - _ else Mw B j + B.getD (j + 1) 0 * _
    by_cases h1 : j + 1 = n
    · subst h1
      rw [if_neg (by omega), if_pos rfl, if_pos rfl]
      have e : ((2 ^ (j + 1 + 1) : Nat) : Int) = 2 * ((2 ^ (j + 1) : Nat) : Int) := by rw [Nat.pow_succ]; push_cast; omega
      rw [e]
      generalize ((2 ^ (j + 1) : Nat) : Int) = z
      generalize (B.getD (j + 1) 0).fdiv 2 = y at *
      generalize (B.getD (j + 1) 0).fmod 2 = x at *
      rw [← hh, Int.add_mul, Int.mul_assoc y 2 z]
      omega
    · rw [if_neg h1, if_neg h1]
      by_cases h2 : j = n
      · subst h2
        rw [if_pos rfl, if_pos rfl, Int.add_mul]
        omega
      · rw [if_neg h2, if_neg (by omega)]
theorem Inv.carry {ps : List Nat} {B G : List Int} {k : Int} (h : Inv ps B G) (h0 : 0 ≤ k) (h1 : k < 12) : Inv ps (carryB B k) (carryG B G k) where
  lB := by
    obtain ⟨n, rfl⟩ : ∃ n : Nat, k = (n : Int) := ⟨k.toNat, by omega⟩
    unfold carryB
    simp only [List.length_append, List.length_take, List.length_drop, h.lB, List.length_cons, List.length_nil]
    omega
  lG := by
    obtain ⟨n, rfl⟩ : ∃ n : Nat, k = (n : Int) := ⟨k.toNat, by omega⟩
    unfold carryG
    simp only [List.length_append, List.length_take, List.length_drop, h.lG, List.length_cons, List.length_nil]
    omega
  nB := fun j => by
    rw [carry_getD h.lB h0 h1]
    have a := h.nB k.toNat
    have b := h.nB (k.toNat + 1)
    have c := half_nn a
    split
    · exact Int.fmod_nonneg_of_pos _ (by decide)
    · split
      · omega
      · exact h.nB j
  nG := fun j => by
    rw [carryG_getD h.lG h0 h1]
    have a := half_nn (h.nB j)
    have b := h.nG j
    split <;> omega
  low := fun j hj => by
    rw [carryG_getD h.lG h0 h1, carry_Mw h.lB h0 h1]
    have := h.low j hj
    by_cases e : j = k.toNat
    · subst e
      rw [if_pos rfl, if_pos rfl, Int.add_mul]
      omega
    · rw [if_neg e, if_neg e]; exact this
  top := by
    rw [carry_Mw h.lB h0 h1, if_neg (by omega)]; exact h.top
theorem Mw_ge {B : List Int} (hn : ∀ j, 0 ≤ B.getD j 0) : ∀ k, 0 ≤ Mw B k ∧ B.getD k 0 * ((2 ^ k : Nat) : Int) ≤ Mw B k
  | 0 => ⟨hn 0, by show B.getD 0 0 * _ ≤ B.getD 0 0; simp⟩
  | k + 1 => by
    obtain ⟨a, _⟩ := Mw_ge hn k
    have b : 0 ≤ B.getD (k + 1) 0 * ((2 ^ (k + 1) : Nat) : Int) := Int.mul_nonneg (hn _) (Int.natCast_nonneg _)
    show 0 ≤ Mw B k + _ ∧ _ ≤ Mw B k + _
    omega
theorem Rw_le (k : Nat) : ∀ ps : List Nat, Rw ps k ≤ ps.length * 2 ^ (k + 1)
  | [] => Nat.zero_le _
  | p :: r => by
    have ih := Rw_le k r
    unfold Rw at ih ⊢
    rw [List.map_cons, List.sum_cons, List.length_cons, Nat.succ_mul]
    have := Nat.mod_lt p (Nat.two_pow_pos (k + 1))
    omega
theorem sum_le : ∀ ps : List Nat, (∀ p ∈ ps, p < 1024) → ps.sum ≤ ps.length * 1023
  | [], _ => Nat.zero_le _
  | p :: r, h => by
    have ih := sum_le r fun q hq => h q (.tail _ hq)
    have := h p (.head _)
    rw [List.sum_cons, List.length_cons]; omega
theorem Inv.bound {ps : List Nat} {B G : List Int} (h : Inv ps B G) (hl : ps.length ≤ 4) (hp : ∀ p ∈ ps, p < 1024) : ∀ j, 0 ≤ B.getD j 0 ∧ B.getD j 0 ≤ 8 := by
  intro j
  refine ⟨h.nB j, ?_⟩
  have h1 := (Mw_ge h.nB j).2
  have pos : (0 : Int) < ((2 ^ j : Nat) : Int) := Int.ofNat_lt.mpr (Nat.two_pow_pos j)
  by_cases hj : j < 12
  · have h2 := h.low j hj
    have h3 := Rw_le j ps
    have h4 : 0 ≤ G.getD j 0 * ((2 ^ (j + 1) : Nat) : Int) := Int.mul_nonneg (h.nG j) (Int.natCast_nonneg _)
    have h5 : ps.length * 2 ^ (j + 1) ≤ 4 * 2 ^ (j + 1) := Nat.mul_le_mul_right _ hl
    have h6 : 4 * 2 ^ (j + 1) = 8 * 2 ^ j := by rw [Nat.pow_succ]; omega
    have h7 : B.getD j 0 * ((2 ^ j : Nat) : Int) ≤ 8 * ((2 ^ j : Nat) : Int) := by omega
    exact Int.le_of_mul_le_mul_right h7 pos
  · by_cases h12 : j = 12
    · subst h12
      have h2 := h.top
      have h3 := sum_le ps hp
      have h7 : B.getD 12 0 * ((2 ^ 12 : Nat) : Int) ≤ 8 * ((2 ^ 12 : Nat) : Int) := by
        have : ((2 ^ 12 : Nat) : Int) = 4096 := by decide
        rw [this] at h1 ⊢
        omega
      exact Int.le_of_mul_le_mul_right h7 pos
    · rw [List.getD_eq_getElem?_getD, List.getElem?_eq_none (by rw [h.lB]; omega)]; decide
theorem Inv.all {ps : List Nat} {B G : List Int} (h : Inv ps B G) (hl : ps.length ≤ 4) (hp : ∀ p ∈ ps, p < 1024) : ∀ b ∈ B, 0 ≤ b ∧ b ≤ 98 := by
  intro b hb
  obtain ⟨i, hi, rfl⟩ := List.getElem_of_mem hb
  have := h.bound hl hp i
  rw [List.getD_eq_getElem?_getD, List.getElem?_eq_getElem hi] at this
  exact ⟨this.1, Int.le_trans this.2 (by decide)⟩
/-- the boxes below n show one mark at most -/
noncomputable def LowB (B : List Int) (n : Nat) : Prop := ∀ j, j < n → B.getD j 0 = 0 ∨ B.getD j 0 = 1
theorem LowB.carry {B : List Int} {n : Nat} (h : LowB B n) (hB : B.length = 13) (hn : n < 12) : LowB (carryB B (n : Int)) (n + 1) := by
  intro j hj
  rw [carry_getD hB (by omega) (by omega), Int.toNat_natCast]
  by_cases e : j = n
  · rw [if_pos e]
    have a := Int.fmod_nonneg_of_pos (B.getD n 0) (b := 2) (by decide)
    have b := Int.fmod_lt_of_pos (B.getD n 0) (b := 2) (by decide)
    omega
  · rw [if_neg e, if_neg (by omega)]
    exact h j (by omega)
theorem low_Mw {B : List Int} {n : Nat} (h : LowB B n) : ∀ k, k < n → Mw B k < ((2 ^ (k + 1) : Nat) : Int)
  | 0, hk => by
    show B.getD 0 0 < _
    have := h 0 hk
    have e : ((2 ^ (0 + 1) : Nat) : Int) = 2 := by decide
    rw [e]; omega
  | k + 1, hk => by
    have ih := low_Mw h k (by omega)
    have := h (k + 1) hk
    show Mw B k + B.getD (k + 1) 0 * _ < _
    have e : ((2 ^ (k + 1 + 1) : Nat) : Int) = 2 * ((2 ^ (k + 1) : Nat) : Int) := by rw [Nat.pow_succ]; push_cast; omega
    have pos : (0 : Int) < ((2 ^ (k + 1) : Nat) : Int) := Int.ofNat_lt.mpr (Nat.two_pow_pos _)
    rw [e]
    generalize ((2 ^ (k + 1) : Nat) : Int) = z at *
    rcases this with h0 | h0 <;> rw [h0] <;> omega
/-- each box has given on just as many marks -/
theorem Inv.given {ps : List Nat} {B G : List Int} (h : Inv ps B G) (hl : LowB B 12) (k : Nat) (hk : k < 12) : G.getD k 0 = ((Rw ps k / 2 ^ (k + 1) : Nat) : Int) := by
  have h1 := h.low k hk
  have h2 := low_Mw hl k hk
  have h3 := (Mw_ge h.nB k).1
  have pos : (0 : Int) < ((2 ^ (k + 1) : Nat) : Int) := Int.ofNat_lt.mpr (Nat.two_pow_pos _)
  rw [Int.natCast_ediv, ← h1, Int.add_comm, Int.add_mul_ediv_right _ _ (Int.ne_of_gt pos), Int.ediv_eq_zero_of_lt h3 h2, Int.zero_add]
end Mine
end
section
open PySem PySem.W PySem.Spec PySem.Calls PyProof.Rows
set_option maxRecDepth 100000
namespace Mine
theorem h63_of {n : Nat} (h : ¬ (63 : Int) < (n : Int)) : n ≤ 63 := by omega
/-- the road's two posts are made opaque -/
theorem gen_post {M : Model} {A : Around} {body : List Stmt} {env : Env} {s : Shared} {Q : Flow → Shared → Prop} {E : Value → Shared → Prop} (Done : Shared → Prop)
    (h : ∀ (Qr : Flow → Shared → Prop) (Er : Value → Shared → Prop), PassesOwn M A env Er → (∀ s', Done s' → Qr (.ret (.bool true)) s') → wpC M A (execs body env) Qr Er s)
    (hE : PassesOwn M A env E) (hQ : ∀ s', Done s' → Q (.ret (.bool true)) s') : wpC M A (execs body env) Q E s := h Q E hE hQ
end Mine
end
section
open PySem PySem.W PySem.Spec PySem.Calls PyProof.Rows
set_option maxRecDepth 100000
namespace Mine
/-! the loops of law -/
theorem canon3 {m : Names} {x1 x2 x3 : PySem.Str} {v1 v2 v3 : Value} (h1 : m x1 = some v1) (h2 : m x2 = some v2) (h3 : m x3 = some v3) :
    m = fun y => if y = x1 then some v1 else if y = x2 then some v2 else if y = x3 then some v3 else m y := by
  funext y
  by_cases e1 : y = x1
  · rw [if_pos e1, e1, h1]
  rw [if_neg e1]
  by_cases e2 : y = x2
  · rw [if_pos e2, e2, h2]
  rw [if_neg e2]
  by_cases e3 : y = x3
  · rw [if_pos e3, e3, h3]
  rw [if_neg e3]
structure LawF (X cK cB : Addr) (sg : PySem.Str) (ts : Tok) (ps : List Nat) (tot : Int) (P : List Int → Prop) (lb : Addr) (vb : List Value) (lg : Addr) (vg : List Value) (oK : Obj) (vk : Option Value) (oB : Obj) (B G : List Int) (tt : Tok) (m : Names) : Prop where
  iB : IntsAre vb B
  iG : IntsAre vg G
  inv : Inv ps B G
  hP : P B
  dK : oK.data = Data.cell vk
  dB : oB.data = Data.cell (some (.ref lb))
  n1 : m (PySem.Str.ofString "given") = some (.ref lg)
  n2 : m (PySem.Str.ofString "sign") = some (.str sg ts)
  n3 : m (PySem.Str.ofString "total") = some (.int tot tt)
  ap : (Nat.succ cK < lb ∧ cB < lb ∧ Nat.succ cK < lg ∧ cB < lg ∧ (@Ne Nat lb X) ∧ (@Ne Nat lg X))
noncomputable def LawJ (X cK cB : Addr) (fix : Ledger) (sg : PySem.Str) (ts : Tok) (ps : List Nat) (tot : Int) (P : List Int → Prop) (m : Names) (n : Ledger) : Prop :=
  ∃ lb vb nb lg vg ng oK vk oB B G tt, n = (lb, listOf (List.toArray vb) nb) :: (lg, listOf (List.toArray vg) ng) :: (cK, oK) :: (cB, oB) :: fix ∧ LawF X cK cB sg ts ps tot P lb vb lg vg oK vk oB B G tt m
section
variable {prog : Program} {w : World} {A : Around} {E : Value → Shared → Prop} {s : Shared} {h₀ : Heap} {m : Names} {env : Env} {x : PySem.Str} {px : Pos} {body : List Stmt} {Q : Flow → Shared → Prop}
  {X cK cB lb lg : Addr} {fix : Ledger} {sg : PySem.Str} {ts tt : Tok} {vb vg : List Value} {nb ng : Nat} {oK oB : Obj} {vk : Option Value} {B G : List Int} {ax : Addr} {vs : List Value} {ks : List Int} {na : Nat}
theorem law_for (psOf : Nat → List Nat) (totOf : Nat → Int) (R : Nat → List Int → Prop) (hE : PassesOwn (model prog w) A env E) (hh : A.handled = none) (F : Fr h₀ env.locals s.heap m)
    (N : News h₀ env.locals s.heap ((lb, listOf (List.toArray vb) nb) :: (lg, listOf (List.toArray vg) ng) :: (cK, oK) :: (cB, oB) :: fix))
    (hm : (ax, listOf (List.toArray vs) na) ∈ fix) (hI : IntsAre vs ks) (start : LawF X cK cB sg ts (psOf 0) (totOf 0) (R 0) lb vb lg vg oK vk oB B G tt m)
    (turn : ∀ (i : Nat) c (t' : Tok) I it h tk (m₁ : Names) lb vb nb lg vg ng oK vk oB B G tt, ks[i]? = some c → IntsAre vb B → IntsAre vg G → Inv (psOf i) B G → R i B → oK.data = Data.cell vk → oB.data = Data.cell (some (.ref lb)) →
      Fr h₀ env.locals h (fun y => if y = PySem.Str.ofString "given" then some (.ref lg) else if y = PySem.Str.ofString "sign" then some (.str sg ts) else if y = PySem.Str.ofString "total" then some (.int (totOf i) tt) else m₁ y) →
      News h₀ env.locals h ((I, it) :: (lb, listOf (List.toArray vb) nb) :: (lg, listOf (List.toArray vg) ng) :: (cK, oK) :: (cB, oB) :: fix) →
      (Nat.succ cK < lb ∧ cB < lb ∧ Nat.succ cK < lg ∧ cB < lg ∧ (@Ne Nat lb X) ∧ (@Ne Nat lg X)) → (cK < I ∧ cB < I ∧ AllLt I fix) → ((@Ne Nat lb I) ∧ (@Ne Nat lg I)) →
      wpAny (model prog w) A (storeName env x (.int c t')) (fun _ s₂ => wpAny (model prog w) A (execs body env) (TurnEnd h₀ env.locals s I it (LawJ X cK cB fix sg ts (psOf (i + 1)) (totOf (i + 1)) (R (i + 1)))) E s₂) E { s with heap := h, toks := tk })
    (fin : ∀ h tk (m₁ : Names) lb vb nb lg vg ng oK vk oB B G tt, IntsAre vb B → IntsAre vg G → Inv (psOf ks.length) B G → R ks.length B → oK.data = Data.cell vk → oB.data = Data.cell (some (.ref lb)) →
      Fr h₀ env.locals h (fun y => if y = PySem.Str.ofString "given" then some (.ref lg) else if y = PySem.Str.ofString "sign" then some (.str sg ts) else if y = PySem.Str.ofString "total" then some (.int (totOf ks.length) tt) else m₁ y) →
      News h₀ env.locals h ((lb, listOf (List.toArray vb) nb) :: (lg, listOf (List.toArray vg) ng) :: (cK, oK) :: (cB, oB) :: fix) →
      (Nat.succ cK < lb ∧ cB < lb ∧ Nat.succ cK < lg ∧ cB < lg ∧ (@Ne Nat lb X) ∧ (@Ne Nat lg X)) → Q .next { s with heap := h, toks := tk }) : ForAt prog w A env x px body Q E (.ref ax) s := by
  refine ForAt.list (fun i => LawJ X cK cB fix sg ts (psOf i) (totOf i) (R i)) hE hh F N (.tail _ (.tail _ (.tail _ (.tail _ hm)))) hI ?_ ⟨_, _, _, _, _, _, _, _, _, _, _, _, rfl, start⟩ ?_ ?_
  · rintro i m n ⟨_, _, _, _, _, _, _, _, _, _, _, _, rfl, _⟩
    exact .tail _ (.tail _ (.tail _ (.tail _ hm)))
  · intro i c t' I it h tk m₁ news₁ hc hJ F₁ N₁ off₁ lt₁
    obtain ⟨lb, vb, nb, lg, vg, ng, oK, vk, oB, B, G, tt, rfl, S⟩ := hJ
    rw [canon3 S.n1 S.n2 S.n3] at F₁
    exact turn i c t' I it h tk m₁ lb vb nb lg vg ng oK vk oB B G tt hc S.iB S.iG S.inv S.hP S.dK S.dB F₁ N₁ S.ap ⟨lt₁ _ (.tail _ (.tail _ (.head _))), lt₁ _ (.tail _ (.tail _ (.tail _ (.head _)))), allLt_of fun q hq => lt₁ q (.tail _ (.tail _ (.tail _ (.tail _ hq))))⟩ ⟨off₁ _ (.head _), off₁ _ (.tail _ (.head _))⟩
  · intro h tk m' news' F' N' hJ
    obtain ⟨lb, vb, nb, lg, vg, ng, oK, vk, oB, B, G, tt, rfl, S⟩ := hJ
    rw [canon3 S.n1 S.n2 S.n3] at F'
    exact fin h tk m' lb vb nb lg vg ng oK vk oB B G tt S.iB S.iG S.inv S.hP S.dK S.dB F' N' S.ap
theorem law_end {h' : Heap} {L : Addr} {m' : Names} {all : Ledger} {I : Addr} {it : Obj} {tk : Nat} {ps : List Nat} {tot : Int} {P : List Int → Prop} (F : Fr h₀ L h' m') (N : News h₀ L h' all)
    (sub : ∀ q ∈ (I, it) :: (lb, listOf (List.toArray vb) nb) :: (lg, listOf (List.toArray vg) ng) :: (cK, oK) :: (cB, oB) :: fix, q ∈ all) (lt : cK < I ∧ cB < I ∧ AllLt I fix) (l2 : (@Ne Nat lb I) ∧ (@Ne Nat lg I))
    (S : LawF X cK cB sg ts ps tot P lb vb lg vg oK vk oB B G tt m') : TurnEnd h₀ L s I it (LawJ X cK cB fix sg ts ps tot P) .next { s with heap := h', toks := tk } := by
  refine TurnEnd.intro _ F N sub ?_ ⟨_, _, _, _, _, _, _, _, _, _, _, _, rfl, S⟩
  intro q hq
  rcases List.mem_cons.mp hq with rfl | hq
  · exact l2.1
  rcases List.mem_cons.mp hq with rfl | hq
  · exact l2.2
  rcases List.mem_cons.mp hq with rfl | hq
  · exact Nat.ne_of_lt lt.1
  rcases List.mem_cons.mp hq with rfl | hq
  · exact Nat.ne_of_lt lt.2.1
  · exact Nat.ne_of_lt (kst_ltOf lt.2.2 q hq)
end
/-! the port of a cell -/
noncomputable def portN (c : Int) : Nat := (c.fmod 1024).toNat
noncomputable def portsOf (C : List Int) (i : Nat) : List Nat := (C.take i).map portN
theorem portN_eq (c : Int) : (portN c : Int) = c.fmod 1024 := Int.toNat_of_nonneg (Int.fmod_nonneg_of_pos _ (by decide))
theorem portN_lt (c : Int) : portN c < 1024 := by
  have := Int.fmod_lt_of_pos c (b := 1024) (by decide)
  have := portN_eq c
  omega
theorem ports_succ {C : List Int} {i : Nat} {c : Int} (h : C[i]? = some c) : portsOf C (i + 1) = portsOf C i ++ [portN c] := by
  unfold portsOf
  rw [List.take_add_one, h, List.map_append]; rfl
theorem ports_len {C : List Int} {i : Nat} : (portsOf C i).length ≤ i := by unfold portsOf; rw [List.length_map, List.length_take]; omega
theorem ports_lt {C : List Int} {i : Nat} : ∀ p ∈ portsOf C i, p < 1024 := by
  intro p hp
  obtain ⟨c, _, rfl⟩ := List.mem_map.mp hp
  exact portN_lt c
end Mine
end
section
open PySem PySem.W PySem.Spec PySem.Calls PyProof.Rows
set_option maxRecDepth 100000
set_option maxHeartbeats 0
set_option pp.deepTerms.threshold 6
set_option pp.proofs.threshold 3
namespace Mine
theorem len_num {n : Int} (h0 : 0 ≤ n) (h1 : n < 10000) : (PySem.Str.ofString (toString n)).length ≤ 4 := toString_length_le h0 (by decide) h1
theorem len_tab3 {i : Nat} : ([PySem.Str.ofString "", PySem.Str.ofString "2", PySem.Str.ofString ":: -"].getD i PySem.Str.empty).length ≤ 4 := by
  match i with
  | 0 => decide
  | 1 => decide
  | 2 => decide
  | n + 3 => exact Nat.zero_le _
theorem len_tab4 {i : Nat} : ([PySem.Str.ofString "", PySem.Str.ofString "0", PySem.Str.ofString "+", PySem.Str.ofString " "].getD i PySem.Str.empty).length ≤ 1 := by
  match i with
  | 0 => decide
  | 1 => decide
  | 2 => decide
  | 3 => decide
  | n + 4 => exact Nat.zero_le _
section
variable {prog : Program} {w : World} {A : Around} {E Q : Value → Shared → Prop} {s : Shared} {t u : Tok}
theorem my_str {n : Int} (h0 : 0 ≤ n) (h1 : n < 1000000000) (h : Q (.str (PySem.Str.ofString (toString n)) s.toks) { s with toks := s.toks + 1 }) : wpAny (model prog w) A (call (.type "str") [.int n t]) Q E s := by
  refine P.str_of_int ?_ h
  have h2 : n.natAbs < 2 ^ 30 := by
    have : (2 : Nat) ^ 30 = 1073741824 := by decide
    omega
  by_cases hz : n.natAbs = 0
  · rw [hz]; decide
  · exact (Nat.log2_lt hz).mpr (Nat.lt_of_lt_of_le h2 (Nat.pow_le_pow_right (by decide) (by decide)))
theorem my_add {x y : PySem.Str} (hz : x.length + y.length ≤ 1000000) (h : ∀ t' k, (x ++ y).length = x.length + y.length → Q (.str (x ++ y) t') { s with toks := k }) : wpAny (model prog w) A (binaryOp .Add (.str x t) (.str y u)) Q E s :=
  add_str (fun t' k => h t' k (by simp [PySem.Str.length_append])) (by rw [sizeLine_eq]; omega)
end
theorem sz_of {n k : Nat} (h : n ≤ k) (hk : k ≤ 16777216) : n ≤ sizeLine := by
  rw [sizeLine_eq]; exact Nat.le_trans h hk
theorem len_slice {x : PySem.Str} {a b : Option Int} {n : Nat} (h : x.length ≤ n) : (Txt.slice x a b).length ≤ n := Nat.le_trans (Txt.slice_le x a b) h
theorem len_item {x : PySem.Str} {i : Int} : (Txt.item x i).length ≤ 1 := Nat.le_refl 1
local macro_rules | `(tactic| kt_len) => `(tactic| first
  | ((with_reducible refine' KT.len_app ?kta ?ktb); (case kta => kt_len); (case ktb => kt_len))
  | ((with_reducible refine' len_slice ?kta); (case kta => kt_len))
  | with_reducible exact len_item
  | with_reducible exact len_tab3
  | with_reducible exact len_tab4
  | with_reducible assumption
  | exact Nat.le_refl _)
noncomputable def mkS (c : Int) : PySem.Str := Txt.item (PySem.Str.ofString "|!\"x") ((c.fdiv 1024).fmod 4)
noncomputable def fdS (c : Int) : PySem.Str := [PySem.Str.ofString "", PySem.Str.ofString "2", PySem.Str.ofString ":: -"].getD (((c.fdiv 1024).fdiv 4).fmod 3).toNat PySem.Str.empty
noncomputable def ptS (c : Int) : PySem.Str := [PySem.Str.ofString "", PySem.Str.ofString "0", PySem.Str.ofString "+", PySem.Str.ofString " "].getD (((c.fdiv 1024).fdiv 12).fmod 4).toNat PySem.Str.empty ++ PySem.Str.ofString (toString (c.fmod 1024))
noncomputable def inS (c : Int) : PySem.Str := mkS c ++ fdS c ++ mkS c ++ fdS c ++ mkS c ++ ptS c ++ mkS c
/-- the ten replies -/
noncomputable def repliesS (c : Int) : List PySem.Str := [PySem.Str.ofString "229 so) (" ++ inS c ++ PySem.Str.ofString ") (" ++ mkS c ++ PySem.Str.ofString ")",
  PySem.Str.ofString (toString ((230 + (c.fdiv 1024).fmod 999).fmod 1000)) ++ PySem.Str.ofString " (" ++ inS c ++ PySem.Str.ofString ")",
  PySem.Str.ofString "229 2" ++ Txt.replace (PySem.Str.ofString (toString (c.fmod 1024))) (PySem.Str.ofString "2") (PySem.Str.ofString "7") ++ PySem.Str.ofString "2)",
  PySem.Str.ofString "229 )(" ++ inS c ++ PySem.Str.ofString "y",
  PySem.Str.ofString "229 (" ++ inS c ++ PySem.Str.ofString "y",
  PySem.Str.ofString "229 ()" ++ inS c ++ PySem.Str.ofString ")",
  PySem.Str.ofString "229 (" ++ inS c ++ PySem.Str.ofString "y)",
  PySem.Str.ofString "229 (" ++ mkS c ++ inS c ++ PySem.Str.ofString ")",
  PySem.Str.ofString "229 (" ++ Txt.slice (inS c) (some 1) none ++ PySem.Str.ofString ")",
  PySem.Str.ofString "229 (" ++ Txt.slice (inS c) none (some (-1)) ++ PySem.Str.ofString "y" ++ mkS c ++ PySem.Str.ofString ")"]
noncomputable def replyS (c f : Int) : PySem.Str := (repliesS c).getD f.toNat PySem.Str.empty
theorem c_reply {w mean mg mb news} (c f : Int) (tk tk2 : Tok) : CClaim w mean mg mb 2 118 news (fun _ => 0 ≤ c ∧ c < 100000000 ∧ 0 ≤ f ∧ f < 10) [.int c tk, .int f tk2]
   (fun h₀ L m s Q _E => ∀ (t : Tok) (h' : Heap) (tk' : Nat), Fr h₀ L h' m → News h₀ L h' news → Q (.str (replyS c f) t) { s with heap := h', toks := tk' }) := by
  unfold CClaim
  k_fill
  w_top off
  k_with_none
  k_with "subscriptTail Name Slice str ref" => (k_here; (with_reducible rename Fr _ _ _ _ => F'); (with_reducible rename News _ _ _ _ => N'); (first | ((with_reducible show wpAny _ _ (subscriptTail _ (Expr.Slice none (some _) none _) _ _) _ _ _); (refine slice_strN_ns (hsz := ?hszw0) (s := ⟨_, _, _, _, _⟩) F' N' ?_)) | ((with_reducible show wpAny _ _ (subscriptTail _ (Expr.Slice (some _) none none _) _ _) _ _ _); (refine slice_strN_sn (hsz := ?hszw0) (s := ⟨_, _, _, _, _⟩) F' N' ?_)) | ((with_reducible show wpAny _ _ (subscriptTail _ (Expr.Slice (some _) (some _) none _) _ _) _ _ _); (refine slice_strN_ss (hsz := ?hszw0) (s := ⟨_, _, _, _, _⟩) F' N' ?_))); (case hszw0 => (refine' sz_of ?ktaw0 ?ktbw0; (case ktaw0 => kt_len); (case ktbw0 => exact Nat.le_of_ble_eq_true rfl))); intro _ _ _ F' N')
  k_with "call type:str" => (k_here; (with_reducible show wpAny _ _ (call (Value.type "str") [Value.int _ _]) _ _ _); (refine my_str ?k1w1 ?k2w1 ?_); (case k1w1 => first | assumption | omega); (case k2w1 => first | assumption | omega))
  k_with "subscriptTail" => (k_here; (with_reducible show wpAny _ _ (subscriptTail _ (Expr.Name (PySem.Str.ofString "form") _) (Value.ref _) (Value.int _ _)) _ _ _); (with_reducible rename News _ _ _ _ => N'); (refine' KTb.item_list (News.isList N' (List.Mem.head _)) ?kww2 ?k0w2 ?k1w2 ?k2w2 ?_); (case kww2 => repeat constructor); (case k0w2 => with_reducible assumption); (case k1w2 => with_reducible assumption); (case k2w2 => (refine Int.lt_trans (by with_reducible assumption) (by decide))); intro _ _)
  intro dp un gd cn cs a ccd cl outer A₀ base h₀ L m s Q E B F X N T hk hx hd9 hu9 hret
  obtain ⟨hc0, hc1, hf0, hf1⟩ := hx
  unfold replyS repliesS inS ptS fdS mkS at hret
  have g1 : 0 ≤ c.fmod 1024 := Int.fmod_nonneg_of_pos _ (by decide)
  have g2 : c.fmod 1024 < 1024 := Int.fmod_lt_of_pos _ (by decide)
  have g3 : 0 ≤ (230 + (c.fdiv 1024).fmod 999).fmod 1000 := Int.fmod_nonneg_of_pos _ (by decide)
  have g4 : (230 + (c.fdiv 1024).fmod 999).fmod 1000 < 1000 := Int.fmod_lt_of_pos _ (by decide)
  have f1 := @len_tab3 (((c.fdiv 1024).fdiv 4).fmod 3).toNat
  have f2 := @len_tab4 (((c.fdiv 1024).fdiv 12).fmod 4).toNat
  have f3 := @len_num (c.fmod 1024) (Int.fmod_nonneg_of_pos _ (by decide)) (Int.lt_trans (Int.fmod_lt_of_pos _ (by decide)) (by decide))
  have f4 := @len_num ((230 + (c.fdiv 1024).fmod 999).fmod 1000) (Int.fmod_nonneg_of_pos _ (by decide)) (Int.lt_trans (Int.fmod_lt_of_pos _ (by decide)) (by decide))
  have f5 := len_rep f3
  k_with "table" => skip
  refine wpAny_call ?_
  k_dflt cell_enter
  k_steps
  all_goals exact hret _ _ _ (by k_asm) (by first | k_asm | (refine' cb_drop ?cbN ?cbS; (case cbN => assumption); (case cbS => kcj_all)))
end Mine
end
section
open PySem PySem.W PySem.Spec PySem.Calls PyProof.Rows
set_option maxRecDepth 100000
set_option maxHeartbeats 0
set_option pp.deepTerms.threshold 6
set_option pp.proofs.threshold 3
namespace Mine
noncomputable abbrev RetE := Heap → List Env → Heap → Addr → Names → Shared → Post → Post → Prop
/-- as CClaim; the end knows the frames below, so that it can speak of what is raised -/
noncomputable abbrev CClaimE (w : World) (mean : ExcName → Option Value) (mg mb : Names) (k : Nat) (f : Addr) (news : Ledger) (pre : Heap → Prop) (vs : List Value) (ret : RetE) : Prop :=
  ∀ (dp un : Nat) (gd : Option (List Code)) (cn : PySem.Str) (cs : Scope) (a : Addr) (ccd : Value) (cl : List (PySem.Str × Addr)) (outer : List Env) (A₀ : Around) (base h₀ : Heap) (L : Addr) (m : Names) (s : Shared) (Q E : Post),
    Below A₀ base outer h₀ → Fr h₀ L s.heap m → (hd.heap_39 w.params).In h₀ → News h₀ L s.heap news → Top hd.view_39 lz mean mg mb h₀ → cs.kind = .function → pre h₀ →
    dp + k < recursionLimit → un + 8 * k < cLine → ret base (envX cn cs L a ccd cl :: outer) h₀ L m s Q E →
      wpAny (model PySem.Challenge.rw_xc0006_01.row.prog w) (ktrTop dp un gd cn cs L a ccd cl outer) (call (.ref f) vs) Q E s
/-- the same under the caller -/
noncomputable abbrev CClaimP (w : World) (mean : ExcName → Option Value) (mg mb : Names) (k : Nat) (f : Addr) (news : Ledger) (pre : Heap → Prop) (vs : List Value) (ret : RetE) : Prop :=
  ∀ (dp un : Nat) (gd : Option (List Code)) (cn : PySem.Str) (cs : Scope) (a : Addr) (ccd : Value) (cl : List (PySem.Str × Addr)) (outer : List Env) (A₀ : Around) (base h₀ : Heap) (L : Addr) (m : Names) (s : Shared) (Q E : Post),
    Below A₀ base outer h₀ → Fr h₀ L s.heap m → (hd.heap_39 w.params).In h₀ → News h₀ L s.heap news → Top hd.view_39 lz mean mg mb h₀ → cs.kind = .function → pre h₀ →
    dp + k < recursionLimit → un + 8 * k < cLine → ret base (envX cn cs L a ccd cl :: outer) h₀ L m s Q E →
      wpC (model PySem.Challenge.rw_xc0006_01.row.prog w) (ktrTop dp un gd cn cs L a ccd cl outer) (call (.ref f) vs) Q E s

noncomputable abbrev lef (x : PySem.Str) : Int := Txt.find x (PySem.Str.ofString "(")
noncomputable abbrev rig (x : PySem.Str) : Int := Txt.find3 x (PySem.Str.ofString ")") (Txt.find x (PySem.Str.ofString "(") + 1)
noncomputable abbrev par (x : PySem.Str) : List PySem.Str := Txt.split (Txt.slice x (some (Txt.find x (PySem.Str.ofString "(") + 1)) (some (rig x))) (Txt.item x (Txt.find x (PySem.Str.ofString "(") + 1))
/-- what parse229 does with a reply: 1 error_reply, 2 error_proto, 3 int of that text -/
noncomputable def out229 (x : PySem.Str) : Nat × PySem.Str :=
  if (Txt.slice x none (some 3) != PySem.Str.ofString "229") = true then (1, PySem.Str.ofString "") else
  if lef x < 0 then (2, PySem.Str.ofString "") else
  if rig x < 0 then (2, PySem.Str.ofString "") else
  if (Txt.item x (lef x + 1) != Txt.item x (rig x - 1)) = true then (2, PySem.Str.ofString "") else
  if (par x).length = 5 then (3, (par x).getD 3 (PySem.Str.ofString "")) else (2, PySem.Str.ofString "")
section
variable {x : PySem.Str}
theorem out_1 (h : (Txt.slice x none (some 3) != PySem.Str.ofString "229") = true) : out229 x = (1, PySem.Str.ofString "") := if_pos h
theorem neq {b : Bool} (h : b = false) : ¬ b = true := by rw [h]; exact Bool.false_ne_true
theorem out_2a (h : (Txt.slice x none (some 3) != PySem.Str.ofString "229") = false) (h2 : lef x < 0) : out229 x = (2, PySem.Str.ofString "") := by
  unfold out229; rw [if_neg (neq h), if_pos h2]
theorem out_2b (h : (Txt.slice x none (some 3) != PySem.Str.ofString "229") = false) (h2 : ¬ lef x < 0) (h3 : rig x < 0) : out229 x = (2, PySem.Str.ofString "") := by
  unfold out229; rw [if_neg (neq h), if_neg h2, if_pos h3]
theorem out_2c (h : (Txt.slice x none (some 3) != PySem.Str.ofString "229") = false) (h2 : ¬ lef x < 0) (h3 : ¬ rig x < 0) (h4 : (Txt.item x (lef x + 1) != Txt.item x (rig x - 1)) = true) : out229 x = (2, PySem.Str.ofString "") := by
  unfold out229; rw [if_neg (neq h), if_neg h2, if_neg h3, if_pos h4]
theorem out_2d (h : (Txt.slice x none (some 3) != PySem.Str.ofString "229") = false) (h2 : ¬ lef x < 0) (h3 : ¬ rig x < 0) (h4 : (Txt.item x (lef x + 1) != Txt.item x (rig x - 1)) = false) {l : List (PySem.Str × Tok)} (hl : List.map (fun y => y.1) l = par x) (h5 : (l.length : Int) ≠ 5) : out229 x = (2, PySem.Str.ofString "") := by
  have : ¬ (par x).length = 5 := by rw [← hl, List.length_map]; omega
  unfold out229; rw [if_neg (neq h), if_neg h2, if_neg h3, if_neg (neq h4), if_neg this]
theorem out_3 (h : (Txt.slice x none (some 3) != PySem.Str.ofString "229") = false) (h2 : ¬ lef x < 0) (h3 : ¬ rig x < 0) (h4 : (Txt.item x (lef x + 1) != Txt.item x (rig x - 1)) = false) {l : List (PySem.Str × Tok)} (hl : List.map (fun y => y.1) l = par x) (h5 : (l.length : Int) = 5)
    {y : PySem.Str} (hy : (List.map (fun y => y.1) l)[Int.toNat 3]? = some y) : out229 x = (3, y) := by
  have : (par x).length = 5 := by rw [← hl, List.length_map]; omega
  unfold out229; rw [if_neg (neq h), if_neg h2, if_neg h3, if_neg (neq h4), if_pos this, ← hl, List.getD_eq_getElem?_getD]
  have e : (List.map (fun y => y.1) l)[3]? = some y := hy
  rw [e]; rfl
end
noncomputable abbrev Num229 (x : PySem.Str) (n : Int) : Prop := ∀ v, out229 x = (3, v) → PySem.intText? v = some n ∧ v.length ≤ 640
theorem int229 {prog : Program} {w : World} {A : Around} {E : Value → Shared → Prop} {s : Shared} {Q : Value → Shared → Prop} {x y : PySem.Str} {t : Tok} {n : Int} (hn : Num229 x n) (ho : out229 x = (3, y))
    (h : Q (.int n s.toks) { s with toks := s.toks + 1 }) : wpAny (model prog w) A (call (.type "int") [.str y t]) Q E s := KIN.call_text (hn y ho).1 (hn y ho).2 h
noncomputable abbrev tupOf (vs : List Value) : Obj := { cls := .type "tuple", data := .seq vs.toArray 0 }
noncomputable abbrev Pre229 (x : PySem.Str) : Prop := x.length ≤ 2000 ∧ -1 ≤ lef x ∧ (¬ rig x < 0 → lef x + 1 ≤ rig x ∧ rig x < (x.length : Int))
theorem raisedS_drop {base G : Heap} {l : List Env} {e t : Addr} {cls : Value} {vs : List Value} {news news' : Ledger} {h : Heap} (R : RaisedS base G l e cls t vs news' h) (hs : ∀ p ∈ news, p ∈ news') : RaisedS base G l e cls t vs news h := by
  obtain ⟨⟨B, a, b, c, d⟩, u⟩ := R
  exact ⟨⟨B, a, b, fun q hq => c q (hs q hq), d⟩, u⟩
theorem raisedSN_drop {base G : Heap} {l : List Env} {e : Addr} {cls : Value} {news news' : Ledger} {h : Heap} (R : RaisedSN base G l e cls news' h) (hs : ∀ p ∈ news, p ∈ news') : RaisedSN base G l e cls news h := by
  obtain ⟨B, a0, a, b, c, d⟩ := R
  exact ⟨B, a0, a, b, fun q hq => c q (hs q hq), d⟩
/-- the two refusals of parse229 -/
noncomputable abbrev Raises229 (x : PySem.Str) (tk : Tok) (news : Ledger) (base : Heap) (l : List Env) (h₀ : Heap) (L : Addr) (m : Names) (s : Shared) (E : Post) : Prop :=
  ∀ (e t : Addr) (g h' : Heap) (tk' : Nat), Fr h₀ L g m → g.UpToSlots h' → (out229 x).1 ≠ 3 → RaisedS base g l e (.ref (if (out229 x).1 = 1 then 54 else 66)) t [.str x tk] news h' → E (.ref e) { s with heap := h', toks := tk' }
section
variable {x : PySem.Str} {tk : Tok} {news : Ledger} {base : Heap} {l : List Env} {h₀ : Heap} {L : Addr} {m : Names} {s : Shared} {E : Post}
theorem raised_1 (H : Raises229 x tk news base l h₀ L m s E) (ho : out229 x = (1, PySem.Str.ofString "")) {e t : Addr} {g h' : Heap} {tk' : Nat} {news' : Ledger} (F : Fr h₀ L g m) (U : g.UpToSlots h') (R : RaisedS base g l e (.ref 54) t [.str x tk] news' h') (hs : ∀ p ∈ news, p ∈ news') :
    E (.ref e) { s with heap := h', toks := tk' } := H e t g h' tk' F U (by rw [ho]; decide) (by rw [ho]; exact raisedS_drop R hs)
theorem raised_2 (H : Raises229 x tk news base l h₀ L m s E) (ho : out229 x = (2, PySem.Str.ofString "")) {e t : Addr} {g h' : Heap} {tk' : Nat} {news' : Ledger} (F : Fr h₀ L g m) (U : g.UpToSlots h') (R : RaisedS base g l e (.ref 66) t [.str x tk] news' h') (hs : ∀ p ∈ news, p ∈ news') :
    E (.ref e) { s with heap := h', toks := tk' } := H e t g h' tk' F U (by rw [ho]; decide) (by rw [ho]; exact raisedS_drop R hs)
end
theorem drop2 {h₀ h : Heap} {L : Addr} {p q : Addr × Obj} {r : Ledger} (N : News h₀ L h (p :: q :: r)) : News h₀ L h (p :: r) := fun x hx => N x (by
  rcases List.mem_cons.mp hx with rfl | hx
  · exact .head _
  · exact .tail _ (.tail _ hx))
theorem c_parse229 {w mean mg mb} {news : Ledger} (x y : PySem.Str) (q n : Int) (pe : Addr) (tk tk2 tk3 : Tok) : CClaimE w mean mg mb 2 75 ((pe, tupOf [.str y tk2, .int q tk3]) :: news) (fun _ => Pre229 x ∧ Num229 x n) [.str x tk, .ref pe]
   (fun base l h₀ L m s Q E => (∀ (p : Addr) (t : Tok) (h' : Heap) (tk' : Nat), (out229 x).1 = 3 → Fr h₀ L h' m → News h₀ L h' ((p, tupOf [.str y tk2, .int n t]) :: (pe, tupOf [.str y tk2, .int q tk3]) :: news) → (pe < p ∧ AllLt p news) → Q (.ref p) { s with heap := h', toks := tk' }) ∧
      Raises229 x tk ((pe, tupOf [.str y tk2, .int q tk3]) :: news) base l h₀ L m s E) := by
  unfold CClaimE
  k_fill
  w_top off
  k_with_none
  k_with "leaving ref" => (k_here; (refine' leave_raiseS ?k1w0 ?k0w0 ?k2w0 ?k3w0 ?_; (case k0w0 => assumption); (case k1w0 => assumption); (case k2w0 => assumption); (case k3w0 => k_asm); k_whole; intro h' t' S' R' U'; (try dsimp only at S' R' U' ⊢)))
  k_with "subscriptTail" => (k_here; (with_reducible show wpAny _ _ (subscriptTail _ _ (Value.str _ _) (Value.int _ _)) _ _ _); (refine KXi.item rfl (by omega) (by omega) (by omega) ?_); intro kxiE)
  k_with "call type:int" => (k_here; (refine int229 (by with_reducible assumption) (out_3 (by with_reducible assumption) (by with_reducible assumption) (by with_reducible assumption) (by with_reducible assumption) (by with_reducible assumption) (by with_reducible assumption) (by with_reducible assumption)) ?_))
  intro dp un gd cn cs a ccd cl outer A₀ base h₀ L m s Q E B F X N T hk hx hd9 hu9 hret
  obtain ⟨⟨hx, hf1, hf2⟩, hn⟩ := hx
  have hf1 : -1 ≤ Txt.find x (PySem.Str.ofString "(") := hf1
  have hf2 : ¬ Txt.find3 x (PySem.Str.ofString ")") (Txt.find x (PySem.Str.ofString "(") + 1) < 0 → Txt.find x (PySem.Str.ofString "(") + 1 ≤ Txt.find3 x (PySem.Str.ofString ")") (Txt.find x (PySem.Str.ofString "(") + 1) ∧ Txt.find3 x (PySem.Str.ofString ")") (Txt.find x (PySem.Str.ofString "(") + 1) < (x.length : Int) := hf2
  obtain ⟨hret, hrai⟩ := hret
  refine wpAny_call ?_
  k_dflt cell_enter
  k_steps
  all_goals (try first
    | exact raised_1 hrai (out_1 (by with_reducible assumption)) (by with_reducible assumption) (by with_reducible assumption) (by with_reducible assumption) (by kcj_all)
    | exact raised_2 hrai (out_2a (by with_reducible assumption) (by with_reducible assumption)) (by with_reducible assumption) (by with_reducible assumption) (by with_reducible assumption) (by kcj_all)
    | exact raised_2 hrai (out_2b (by with_reducible assumption) (by with_reducible assumption) (by with_reducible assumption)) (by with_reducible assumption) (by with_reducible assumption) (by with_reducible assumption) (by kcj_all)
    | exact raised_2 hrai (out_2c (by with_reducible assumption) (by with_reducible assumption) (by with_reducible assumption) (by with_reducible assumption)) (by with_reducible assumption) (by with_reducible assumption) (by with_reducible assumption) (by kcj_all)
    | exact raised_2 hrai (out_2d (by with_reducible assumption) (by with_reducible assumption) (by with_reducible assumption) (by with_reducible assumption) (by with_reducible assumption) (by with_reducible assumption)) (by with_reducible assumption) (by with_reducible assumption) (by with_reducible assumption) (by kcj_all))
  all_goals (
    refine' hret _ _ _ _ (congrArg Prod.fst (out_3 (by with_reducible assumption) (by with_reducible assumption) (by with_reducible assumption) (by with_reducible assumption) (by with_reducible assumption) (by with_reducible assumption) (by with_reducible assumption))) ?fF (drop2 ?fN) ?fL
    case fL => exact And.right (by assumption)
    case fN => assumption
    case fF => k_asm)
end Mine
end
section
open PySem PySem.W PySem.Spec PySem.Calls PySem.NumText PyProof.Rows
set_option maxRecDepth 100000
set_option maxHeartbeats 0
set_option pp.deepTerms.threshold 6
set_option pp.proofs.threshold 3
namespace Mine
noncomputable abbrev Bad229 (x : PySem.Str) : Prop := (out229 x).1 = 3 ∧ ∀ v, out229 x = (3, v) → digits? 10 (core (numSeenOf v)) = none ∧ v.length ≤ 640 ∧ (reprText v).length ≤ sizeLine
theorem not_1 {x : PySem.Str} {y : PySem.Str} {P : Prop} (h : (out229 x).1 = 3) (h1 : out229 x = (1, y)) : P := by rw [h1] at h; exact absurd (show (1 : Nat) = 3 from h) (by decide)
theorem not_2 {x : PySem.Str} {y : PySem.Str} {P : Prop} (h : (out229 x).1 = 3) (h1 : out229 x = (2, y)) : P := by rw [h1] at h; exact absurd (show (2 : Nat) = 3 from h) (by decide)
theorem c_parse229_bad {w mean mg mb} {news : Ledger} (x y : PySem.Str) (q : Int) (pe : Addr) (tk tk2 tk3 : Tok) : CClaimP w mean mg mb 2 75 ((pe, tupOf [.str y tk2, .int q tk3]) :: news) (fun _ => Pre229 x ∧ Bad229 x) [.str x tk, .ref pe]
   (fun base l h₀ L m s _Q E => ∀ (e : Addr) (g h' : Heap) (tk' : Nat), Fr h₀ L g m → g.UpToSlots h' → RaisedSN base g l e (.type "ValueError") ((pe, tupOf [.str y tk2, .int q tk3]) :: news) h' → E (.ref e) { s with heap := h', toks := tk' }) := by
  unfold CClaimP
  k_fill
  w_top off
  k_with_none
  k_with "leaving ref" => (k_here; (refine' leave_newS ?k1w0 ?k0w0 ?k2w0 ?k3w0 ?_; (case k0w0 => assumption); (case k2w0 => assumption); (case k1w0 => assumption); (case k3w0 => k_asm); k_whole; intro h' S' R' U'; (try dsimp only at S' R' U' ⊢)))
  k_with "subscriptTail" => (k_here; (with_reducible show wpAny _ _ (subscriptTail _ _ (Value.str _ _) (Value.int _ _)) _ _ _); (refine KXi.item rfl (by omega) (by omega) (by omega) ?_); intro kxiE)
  intro dp un gd cn cs a ccd cl outer A₀ base h₀ L m s Q E B F X N T hk hx hd9 hu9 hret
  obtain ⟨⟨hx, hf1, hf2⟩, ho, hbad⟩ := hx
  have hf1 : -1 ≤ Txt.find x (PySem.Str.ofString "(") := hf1
  have hf2 : ¬ Txt.find3 x (PySem.Str.ofString ")") (Txt.find x (PySem.Str.ofString "(") + 1) < 0 → Txt.find x (PySem.Str.ofString "(") + 1 ≤ Txt.find3 x (PySem.Str.ofString ")") (Txt.find x (PySem.Str.ofString "(") + 1) ∧ Txt.find3 x (PySem.Str.ofString ")") (Txt.find x (PySem.Str.ofString "(") + 1) < (x.length : Int) := hf2
  refine c_call ?_
  k_dflt (refine' code_defP ?k1 ?k2 ?k3 ?k4 ?k5 ?kA ?kF ?kK ?k6 ?k7 ?k8 ?k9 ?kB ?_ ?c2 ?c3 ?c4 ?c5; (case kA => exact rfl); (case kF => exact rfl); (case kK => assumption); (case k1 => k_asm); (case k2 => k_asm); (case k3 => k_asm); (case k4 => k_asm); (case k5 => k_asm); (case k6 => k_is); (case k7 => k_is); (case k8 => ktr_room); (case k9 => exact BindsTo.of_eq rfl); (case c5 => decide); (case kB => exact locs rfl); (case c2 => exact rfl); (case c3 => exact rfl); (case c4 => exact rfl))
  intro g' L' h' FG' F' N' B' X' T'
  (try dsimp only)
  refine c_execs_append (l₁ := [_, _, _, _, _, _, _, _, _]) (l₂ := [_, _]) ?_
  k_fold
  k_steps
  all_goals (try first
    | exact not_1 ho (out_1 (by with_reducible assumption))
    | exact not_2 ho (out_2a (by with_reducible assumption) (by with_reducible assumption))
    | exact not_2 ho (out_2b (by with_reducible assumption) (by with_reducible assumption) (by with_reducible assumption))
    | exact not_2 ho (out_2c (by with_reducible assumption) (by with_reducible assumption) (by with_reducible assumption) (by with_reducible assumption))
    | exact not_2 ho (out_2d (by with_reducible assumption) (by with_reducible assumption) (by with_reducible assumption) (by with_reducible assumption) (by with_reducible assumption) (by with_reducible assumption)))
  refine c_execs_cons (c_Assign (c_Call_Name ?_))
  k_steps
  refine c_callT ?_
  k_steps
  obtain ⟨b1, b2, b3⟩ := hbad _ (out_3 (by with_reducible assumption) (by with_reducible assumption) (by with_reducible assumption) (by with_reducible assumption) (by with_reducible assumption) (by with_reducible assumption) (by with_reducible assumption))
  refine c_int_bad b2 b1 rfl b3 ?_
  intro h9 e9 tk9 hx9
  k_steps
  exact hret _ _ _ _ (by with_reducible assumption) (by with_reducible assumption) (raisedSN_drop (by with_reducible assumption) (by kcj_all))
end Mine
end
section
open PySem PySem.W PySem.Spec PySem.Calls PySem.NumText PyProof.Rows
set_option maxRecDepth 100000
namespace Mine
open PySem.StrLaws PySem.Builtin.Str
/-! the ten replies, read by parse229 -/
theorem str_codes_ext {x y : PySem.Str} (h : x.cps.toList = y.cps.toList) : x = y := Str.ext' (Array.toList_inj.mp h)
theorem len_codes (x : PySem.Str) : x.length = x.cps.toList.length := rfl
/-- parts joined by one code -/
noncomputable def joinL (c : Nat) : List (List Nat) → List Nat
  | [] => []
  | [r] => r
  | r :: r' :: t => r ++ c :: joinL c (r' :: t)
theorem join_codes (c : Nat) : ∀ ps : List PySem.Str, (Str.join ⟨#[c]⟩ ps).cps.toList = joinL c (ps.map fun p => p.cps.toList)
  | [] => rfl
  | [x] => rfl
  | x :: y :: r => by
    show (x ++ ⟨#[c]⟩ ++ Str.join ⟨#[c]⟩ (y :: r)).cps.toList = _
    rw [app_toList, app_toList, join_codes c (y :: r), List.append_assoc]; rfl
theorem head_eq {c : Nat} : ∀ {r r' X Y : List Nat}, c ∉ r → c ∉ r' → r ++ c :: X = r' ++ c :: Y → r = r' ∧ X = Y
  | [], [], X, Y, _, _, h => ⟨rfl, by injection h⟩
  | [], b :: r', X, Y, _, h', h => by
    injection h with h1 _
    exact absurd (h1 ▸ List.mem_cons_self) h'
  | a :: r, [], X, Y, h', _, h => by
    injection h with h1 _
    exact absurd (h1 ▸ List.mem_cons_self) h'
  | a :: r, b :: r', X, Y, h1, h2, h => by
    injection h with e h
    obtain ⟨e1, e2⟩ := head_eq (fun x => h1 (.tail _ x)) (fun x => h2 (.tail _ x)) h
    exact ⟨by rw [e, e1], e2⟩
theorem joinL_inj (c : Nat) : ∀ {ps qs : List (List Nat)}, ps ≠ [] → qs ≠ [] → (∀ p ∈ ps, c ∉ p) → (∀ q ∈ qs, c ∉ q) → joinL c ps = joinL c qs → ps = qs
  | [], _, h, _, _, _, _ => absurd rfl h
  | _ :: _, [], _, h, _, _, _ => absurd rfl h
  | [p], [q], _, _, _, _, h => by rw [show p = q from h]
  | [p], q :: q' :: qs, _, _, hp, _, h => by
    have e : p = q ++ c :: joinL c (q' :: qs) := h
    exact absurd (show c ∈ p by rw [e]; simp) (hp p (.head _))
  | p :: p' :: ps, [q], _, _, _, hq, h => by
    have e : p ++ c :: joinL c (p' :: ps) = q := h
    exact absurd (show c ∈ q by rw [← e]; simp) (hq q (.head _))
  | p :: p' :: ps, q :: q' :: qs, _, _, hp, hq, h => by
    obtain ⟨e1, e2⟩ := head_eq (hp p (.head _)) (hq q (.head _)) (show p ++ c :: joinL c (p' :: ps) = q ++ c :: joinL c (q' :: qs) from h)
    rw [e1, joinL_inj c (by simp) (by simp) (fun x hx => hp x (.tail _ hx)) (fun x hx => hq x (.tail _ hx)) e2]
theorem split_ne (x y : PySem.Str) : Txt.split x y ≠ [] := by
  unfold Txt.split
  split
  · simp
  · split
    · simp
    · rw [partsBetween_eq]
      obtain ⟨p, r, e⟩ := partsFrom_ne x y.length 0 (occurrences x y 0 x.length (x.length + 1))
      rw [e]; simp
theorem split_codes {x : PySem.Str} {c : Nat} {ps : List (List Nat)} (hx : x.cps.toList = joinL c ps) (hne : ps ≠ []) (hf : ∀ p ∈ ps, c ∉ p) : (Txt.split x ⟨#[c]⟩).map (fun p => p.cps.toList) = ps := by
  refine joinL_inj c (fun h => ?_) hne (fun p hp => ?_) hf ?_
  · exact split_ne x ⟨#[c]⟩ (List.map_eq_nil_iff.mp h)
  · obtain ⟨q, hq, rfl⟩ := List.mem_map.mp hp
    exact split_free x c q hq
  · rw [← join_codes, join_split, hx]
/-! find, item, slice upon codes -/
theorem find_0 (x y : PySem.Str) : Txt.find x y = Txt.find3 x y 0 := by
  have e : fromIndex x.length 0 = 0 := by unfold fromIndex; simp
  show _ = match occurrences x y (fromIndex x.length 0) x.length 1 with | k :: _ => (k : Int) | [] => -1
  rw [e]; rfl
theorem from_nat (n i : Nat) : fromIndex n (i : Int) = i := by
  unfold fromIndex
  rw [if_neg (by omega)]; omega
theorem getD_codes {x : PySem.Str} {l : List Nat} (h : x.cps.toList = l) (v : Nat) : x.cps.getD v 0 = l.getD v 0 := by
  rw [← h]; simp [Array.getD, List.getD_eq_getElem?_getD]
  split <;> simp [*]
theorem find3_at {x : PySem.Str} {c lo : Nat} {A B : List Nat} (hx : x.cps.toList = A ++ c :: B) (hlo : lo ≤ A.length) (hA : c ∉ A.drop lo) : Txt.find3 x ⟨#[c]⟩ (lo : Int) = (A.length : Int) := by
  have hl : x.length = A.length + (B.length + 1) := by rw [len_codes, hx, List.length_append]; rfl
  have hat : x.cps.getD A.length 0 = c := by rw [getD_codes hx, List.getD_eq_getElem?_getD, List.getElem?_append_right (Nat.le_refl _)]; simp
  have hbelow : ∀ v, lo ≤ v → v < A.length → x.cps.getD v 0 ≠ c := by
    intro v h1 h2 e
    rw [getD_codes hx, List.getD_eq_getElem?_getD, List.getElem?_append_left h2, List.getElem?_eq_getElem h2] at e
    refine hA ?_
    have : (A.drop lo)[v - lo]? = some c := by
      rw [List.getElem?_drop, show lo + (v - lo) = v by omega, List.getElem?_eq_getElem h2]
      exact congrArg some e
    exact List.mem_of_getElem? this
  rcases find3_spec x c (lo : Int) with ⟨_, h⟩ | ⟨k, e, h1, h2, h3, h4⟩
  · rw [from_nat] at h
    exact absurd hat (h _ hlo (by omega))
  · rw [from_nat] at h1 h4
    rw [e]
    rcases Nat.lt_trichotomy k A.length with h | h | h
    · exact absurd h3 (hbelow k h1 h)
    · rw [h]
    · exact absurd hat (h4 _ hlo h)
theorem find3_no {x : PySem.Str} {c lo : Nat} (hA : c ∉ x.cps.toList.drop lo) : Txt.find3 x ⟨#[c]⟩ (lo : Int) = -1 := by
  rcases find3_spec x c (lo : Int) with ⟨h, _⟩ | ⟨k, e, h1, h2, h3, h4⟩
  · exact h
  · rw [from_nat] at h1
    refine absurd ?_ hA
    have := getElem?_of_getD h2 h3
    have e2 : (x.cps.toList.drop lo)[k - lo]? = some c := by rw [List.getElem?_drop, show lo + (k - lo) = k by omega]; exact this
    exact List.mem_of_getElem? e2
theorem item_at {x : PySem.Str} {c : Nat} {A B : List Nat} {i : Int} (hx : x.cps.toList = A ++ c :: B) (hi : i = (A.length : Int)) : Txt.item x i = ⟨#[c]⟩ := by
  subst hi
  unfold Txt.item Txt.charAt
  have hn : x.cps[A.length]? = some c := by
    rw [← Array.getElem?_toList, hx, List.getElem?_append_right (Nat.le_refl _)]; simp
  rw [at_nonneg (n := c) (by omega) (by rw [Int.toNat_natCast]; exact hn)]
  rfl
theorem slice_is (x : PySem.Str) (l u : Option Int) : Txt.slice x l u = sliceText x l u := rfl
theorem slice_mid {x : PySem.Str} {A B C : List Nat} {i j : Int} (hx : x.cps.toList = A ++ (B ++ C)) (hi : i = (A.length : Int)) (hj : j = ((A.length + B.length : Nat) : Int)) : (Txt.slice x (some i) (some j)).cps.toList = B := by
  subst hi; subst hj
  rw [slice_is, sliceText_nat x (by omega) (by rw [len_codes, hx]; simp), hx]
  show List.take _ (List.drop _ _) = _
  rw [List.drop_left, show A.length + B.length - A.length = B.length by omega, List.take_left]
theorem slice_head {x : PySem.Str} {n : Nat} (h : n ≤ x.length) : (Txt.slice x none (some (n : Int))).cps.toList = x.cps.toList.take n := by
  rw [slice_is, sliceText_to ⟨by omega, by rw [← len_codes]; omega⟩]
  show List.take _ (List.drop 0 _) = _
  rw [List.drop_zero]; congr 1
theorem slice_tail {x : PySem.Str} (h : 1 ≤ x.length) : (Txt.slice x (some 1) none).cps.toList = x.cps.toList.drop 1 := by
  rw [slice_is, sliceText_from ⟨by decide, by rw [← len_codes]; omega⟩]
  show List.take _ (List.drop 1 _) = _
  exact List.take_of_length_le (by rw [List.length_drop]; omega)
theorem slice_init {x : PySem.Str} (h : 1 ≤ x.length) : (Txt.slice x none (some (-1))).cps.toList = x.cps.toList.take (x.length - 1) := by
  rw [slice_is, sliceText_to_neg (by decide) (by omega)]
  show List.take _ (List.drop 0 _) = _
  rw [List.drop_zero]; congr 1; omega
theorem pre_of {x : PySem.Str} (h : x.length ≤ 2000) : Pre229 x := by
  have h1 : -1 ≤ lef x := by
    show -1 ≤ Txt.find x _
    rw [find_0]
    rcases find3_spec x 40 0 with ⟨h, _⟩ | ⟨k, e, _⟩
    · rw [show PySem.Str.ofString "(" = ⟨#[40]⟩ from rfl, h]; decide
    · rw [show PySem.Str.ofString "(" = ⟨#[40]⟩ from rfl, e]; omega
  refine ⟨h, h1, fun h2 => ?_⟩
  rcases find3_spec x 41 (lef x + 1) with ⟨h, _⟩ | ⟨k, e, hk, hlt, _⟩
  · exact absurd (show Txt.find3 x (PySem.Str.ofString ")") (lef x + 1) < 0 by rw [show PySem.Str.ofString ")" = ⟨#[41]⟩ from rfl, h]; decide) h2
  · obtain ⟨n, hn⟩ : ∃ n : Nat, lef x + 1 = (n : Int) := ⟨(lef x + 1).toNat, by omega⟩
    have e' : rig x = (k : Int) := e
    rw [hn, from_nat] at hk
    rw [e', hn]
    omega
/-! what parse229 says of a reply with brackets -/
noncomputable abbrev c229 : List Nat := [50, 50, 57]
theorem code_ok {x : PySem.Str} {r : List Nat} (hx : x.cps.toList = c229 ++ r) : (Txt.slice x none (some 3) != PySem.Str.ofString "229") = false := by
  have h : Txt.slice x none (some 3) = PySem.Str.ofString "229" := by
    refine str_codes_ext ?_
    rw [show (3 : Int) = ((3 : Nat) : Int) from rfl, slice_head (by rw [len_codes, hx]; simp), hx]
    rfl
  rw [h]; simp [bne]
theorem lef_at {x : PySem.Str} {A B : List Nat} (hx : x.cps.toList = A ++ 40 :: B) (hA : 40 ∉ A) : lef x = (A.length : Int) := by
  show Txt.find x _ = _
  rw [find_0, show PySem.Str.ofString "(" = ⟨#[40]⟩ from rfl]
  exact find3_at (lo := 0) hx (Nat.zero_le _) hA
theorem rig_at {x : PySem.Str} {A B C : List Nat} (hx : x.cps.toList = A ++ 40 :: (B ++ 41 :: C)) (hA : 40 ∉ A) (hB : 41 ∉ B) : rig x = ((A.length + 1 + B.length : Nat) : Int) := by
  show Txt.find3 x _ (lef x + 1) = _
  rw [lef_at hx hA, show PySem.Str.ofString ")" = ⟨#[41]⟩ from rfl, show (A.length : Int) + 1 = ((A.length + 1 : Nat) : Int) from rfl]
  have hx2 : x.cps.toList = (A ++ 40 :: B) ++ 41 :: C := by rw [hx]; simp
  have := find3_at (lo := A.length + 1) hx2 (by simp) (by
    rw [show A ++ 40 :: B = (A ++ [40]) ++ B by simp, List.drop_left' (by simp)]; exact hB)
  rw [this]; congr 1; simp; omega
theorem rig_no {x : PySem.Str} {A B : List Nat} (hx : x.cps.toList = A ++ 40 :: B) (hA : 40 ∉ A) (hB : 41 ∉ B) : rig x = -1 := by
  show Txt.find3 x _ (lef x + 1) = _
  rw [lef_at hx hA, show PySem.Str.ofString ")" = ⟨#[41]⟩ from rfl, show (A.length : Int) + 1 = ((A.length + 1 : Nat) : Int) from rfl]
  refine find3_no ?_
  rw [hx, show A ++ 40 :: B = (A ++ [40]) ++ B by simp, List.drop_left' (by simp)]; exact hB
section
variable {x : PySem.Str} {A B C : List Nat}
theorem out_no_left (h3 : ∃ r, x.cps.toList = c229 ++ r) (hA : 40 ∉ x.cps.toList) : (out229 x).1 = 2 := by
  obtain ⟨r, h3⟩ := h3
  have : lef x = -1 := by
    show Txt.find x _ = _
    rw [find_0, show PySem.Str.ofString "(" = ⟨#[40]⟩ from rfl]
    exact find3_no (lo := 0) hA
  rw [out_2a (code_ok h3) (by rw [this]; decide)]
theorem out_no_right (h3 : ∃ r, x.cps.toList = c229 ++ r) (hx : x.cps.toList = A ++ 40 :: B) (hA : 40 ∉ A) (hB : 41 ∉ B) : (out229 x).1 = 2 := by
  obtain ⟨r, h3⟩ := h3
  rw [out_2b (code_ok h3) (by rw [lef_at hx hA]; omega) (by rw [rig_no hx hA hB]; decide)]
theorem one_ne {a b : Nat} (h : a ≠ b) : ((⟨#[a]⟩ : PySem.Str) != ⟨#[b]⟩) = true := by
  simp [bne_iff_ne, h]
theorem one_eq {a : Nat} : ((⟨#[a]⟩ : PySem.Str) != ⟨#[a]⟩) = false := by simp [bne]
/-- the two ends differ -/
theorem out_ends {a b : Nat} {A' B' : List Nat} (h3 : ∃ r, x.cps.toList = c229 ++ r) (hx : x.cps.toList = A ++ 40 :: (B ++ 41 :: C)) (hA : 40 ∉ A) (hB : 41 ∉ B) (ha : B ++ 41 :: C = a :: A') (hb : 40 :: B = B' ++ [b]) (hne : a ≠ b) : (out229 x).1 = 2 := by
  obtain ⟨r, h3⟩ := h3
  have hl := lef_at hx hA
  have hr := rig_at hx hA hB
  have i1 : Txt.item x (lef x + 1) = ⟨#[a]⟩ := item_at (A := A ++ [40]) (B := A') (by rw [hx, ha]; simp) (by rw [hl]; simp)
  have hbl : B.length = B'.length := by have := congrArg List.length hb; simp at this; omega
  have i2 : Txt.item x (rig x - 1) = ⟨#[b]⟩ := item_at (A := A ++ B') (B := 41 :: C) (by rw [hx, show 40 :: (B ++ 41 :: C) = (40 :: B) ++ 41 :: C from rfl, hb]; simp) (by rw [hr]; simp; omega)
  rw [out_2c (code_ok h3) (by rw [hl]; omega) (by rw [hr]; omega) (by rw [i1, i2]; exact one_ne hne)]
/-- the ends agree: the parts decide -/
theorem out_parts {a : Nat} {A' B' : List Nat} {ps : List (List Nat)} (h3 : ∃ r, x.cps.toList = c229 ++ r) (hx : x.cps.toList = A ++ 40 :: (B ++ 41 :: C)) (hA : 40 ∉ A) (hB : 41 ∉ B) (ha : B = a :: A') (hb : B = B' ++ [a])
    (hj : B = joinL a ps) (hne : ps ≠ []) (hf : ∀ p ∈ ps, a ∉ p) : (par x).map (fun p => p.cps.toList) = ps ∧ (ps.length ≠ 5 → (out229 x).1 = 2) ∧ (ps.length = 5 → out229 x = (3, (par x).getD 3 (PySem.Str.ofString ""))) := by
  obtain ⟨r, h3⟩ := h3
  have hl := lef_at hx hA
  have hr := rig_at hx hA hB
  have i1 : Txt.item x (lef x + 1) = ⟨#[a]⟩ := item_at (A := A ++ [40]) (B := A' ++ 41 :: C) (by rw [hx, ha]; simp) (by rw [hl]; simp)
  have hbl : B.length = B'.length + 1 := by rw [hb]; simp
  have i2 : Txt.item x (rig x - 1) = ⟨#[a]⟩ := item_at (A := A ++ 40 :: B') (B := 41 :: C) (by rw [hx, hb]; simp) (by rw [hr]; simp; omega)
  have hp : (par x).map (fun p => p.cps.toList) = ps := by
    show (Txt.split (Txt.slice x (some (lef x + 1)) (some (rig x))) (Txt.item x (lef x + 1))).map _ = ps
    rw [i1]
    refine split_codes ?_ hne hf
    rw [slice_mid (A := A ++ [40]) (B := B) (C := 41 :: C) (by rw [hx]; simp) (by rw [hl]; simp) (by rw [hr]; simp), hj]
  have hpl : (par x).length = ps.length := by rw [← hp, List.length_map]
  have n1 : ¬ lef x < 0 := by rw [hl]; omega
  have n2 : ¬ rig x < 0 := by rw [hr]; omega
  have n3 : (Txt.item x (lef x + 1) != Txt.item x (rig x - 1)) = false := by rw [i1, i2]; exact one_eq
  refine ⟨hp, fun h => ?_, fun h => ?_⟩
  · unfold out229
    rw [if_neg (neq (code_ok h3)), if_neg n1, if_neg n2, if_neg (neq n3), if_neg (by rw [hpl]; exact h)]
  · unfold out229
    rw [if_neg (neq (code_ok h3)), if_neg n1, if_neg n2, if_neg (neq n3), if_pos (by rw [hpl]; exact h)]
end
end Mine
end
section
open PySem PySem.W PySem.Spec PySem.Calls PySem.NumText PyProof.Rows
set_option maxRecDepth 100000
namespace Mine
open PySem.StrLaws PySem.Builtin.Str
/-! int of a port's text -/
theorem text_plain {x : PySem.Str} (h : ∀ c ∈ x.cps.toList, c ≠ 0 ∧ c < 128) : numTextOf x = x.cps.toList ∧ numSeenOf x = x.cps.toList := by
  have e1 : numTextOf x = x.cps.toList := by
    refine if_pos ?_
    rw [← Array.all_toList, List.all_eq_true]
    intro c hc
    exact decide_eq_true (h c hc).2
  refine ⟨e1, ?_⟩
  show (numTextOf x).takeWhile _ = _
  rw [e1]
  exact takeWhile_all fun c hc => bne_iff_ne.mpr (h c hc).1
/-- a sign, a nought, a blank or nothing ahead -/
noncomputable def PreOk (p : List Nat) : Prop := p = [] ∨ p = [48] ∨ p = [43] ∨ p = [32]
theorem dig_app {D E : List Nat} (h : AllDigits D) (h' : AllDigits E) : AllDigits (D ++ E) := fun c hc => by
  rcases List.mem_append.mp hc with hc | hc
  · exact h c hc
  · exact h' c hc
theorem strip_end {L : List Nat} {c : Nat} (h : 33 ≤ c) : ((L ++ [c]).reverse.dropWhile blank).reverse = L ++ [c] := by
  rw [List.reverse_append]
  show ((c :: L.reverse).dropWhile blank).reverse = _
  rw [dropWhile_of h]; simp
theorem core_pre {p D : List Nat} {c : Nat} (hp : PreOk p) (hD : AllDigits D) (hne : D ≠ []) (hc : 48 ≤ c) : ∃ E, core (p ++ D ++ [c]) = E ++ [c] ∧ (sign ((p ++ D ++ [c]).dropWhile blank)).1 = false ∧ AllDigits E ∧ digitsVal E = digitsVal D ∧ E ≠ [] := by
  obtain ⟨d, D', rfl⟩ := List.exists_cons_of_ne_nil hne
  have hd := hD.head
  have e1 : sign ((d :: D' ++ [c]).dropWhile blank) = (false, d :: D' ++ [c]) := by
    rw [List.cons_append, dropWhile_of (by omega)]; exact sign_of (by omega) (by omega)
  rcases hp with rfl | rfl | rfl | rfl
  · refine ⟨d :: D', ?_, ?_, hD, rfl, by simp⟩
    · unfold core; rw [List.nil_append, e1]; exact strip_end (by omega)
    · rw [List.nil_append, e1]
  · have e2 : sign (([48] ++ d :: D' ++ [c]).dropWhile blank) = (false, 48 :: d :: D' ++ [c]) := by
      show sign ((48 :: (d :: D' ++ [c])).dropWhile blank) = _
      rw [dropWhile_of (by decide)]; exact sign_of (by decide) (by decide)
    refine ⟨48 :: d :: D', ?_, ?_, ?_, digitsVal_zero, by simp⟩
    · unfold core; rw [e2]; exact strip_end (by omega)
    · rw [e2]
    · intro x hx
      rcases List.mem_cons.mp hx with rfl | hx
      · decide
      · exact hD x hx
  · have e2 : sign (([43] ++ d :: D' ++ [c]).dropWhile blank) = (false, d :: D' ++ [c]) := by
      show sign ((43 :: (d :: D' ++ [c])).dropWhile blank) = _
      rw [dropWhile_of (by decide)]; rfl
    refine ⟨d :: D', ?_, ?_, hD, rfl, by simp⟩
    · unfold core; rw [e2]; exact strip_end (by omega)
    · rw [e2]
  · have e2 : sign (([32] ++ d :: D' ++ [c]).dropWhile blank) = (false, d :: D' ++ [c]) := by
      show sign ((32 :: (d :: D' ++ [c])).dropWhile blank) = _
      rw [List.dropWhile_cons, if_pos (by decide), ← e1]
    refine ⟨d :: D', ?_, ?_, hD, rfl, by simp⟩
    · unfold core; rw [e2]; exact strip_end (by omega)
    · rw [e2]
theorem digits_y {E : List Nat} (h : AllDigits E) (hne : E ≠ []) : digits? 10 (E ++ [121]) = none := by
  obtain ⟨d, E', rfl⟩ := List.exists_cons_of_ne_nil hne
  unfold digits?
  rw [List.cons_append, List.foldlM_cons, step_digit h.head]
  show ((E' ++ [121]).foldlM (step 10) ((#[] : Array Nat).push (d - 48), true)).bind _ = _
  rw [List.foldlM_append, foldl_digits E' _ h.tail]
  rfl
theorem pre_codes {p D : List Nat} (hp : PreOk p) (hD : AllDigits D) : ∀ c ∈ p ++ D, c = 43 ∨ c = 32 ∨ (48 ≤ c ∧ c ≤ 57) := by
  intro c hc
  rcases List.mem_append.mp hc with hc | hc
  · rcases hp with rfl | rfl | rfl | rfl <;> simp at hc <;> omega
  · exact .inr (.inr (hD c hc))
theorem int_port {x : PySem.Str} {p D : List Nat} (hx : x.cps.toList = p ++ D) (hp : PreOk p) (hD : AllDigits D) (hne : D ≠ []) (hl : D.length ≤ 4) : PySem.intText? x = some ((digitsVal D : Nat) : Int) := by
  have hc := pre_codes hp hD
  obtain ⟨e1, e2⟩ := text_plain (x := x) (by rw [hx]; intro c h; have := hc c h; omega)
  have hD2 := List.dropLast_concat_getLast hne
  have hlast : 48 ≤ D.getLast hne := (hD _ (List.getLast_mem hne)).1
  have hDd : AllDigits D.dropLast := fun c h => hD c (List.dropLast_subset _ h)
  have key : ∃ E, core (p ++ D) = E ∧ (sign ((p ++ D).dropWhile blank)).1 = false ∧ AllDigits E ∧ digitsVal E = digitsVal D ∧ E ≠ [] ∧ E.length ≤ 5 := by
    by_cases hi : D.dropLast = []
    · obtain ⟨d, rfl⟩ : ∃ d, D = [d] := by
        cases D with
        | nil => exact absurd rfl hne
        | cons a r => cases r with
          | nil => exact ⟨a, rfl⟩
          | cons b r => simp at hi
      have hd := hD.head
      rcases hp with rfl | rfl | rfl | rfl
      · refine ⟨[d], ?_, ?_, hD, rfl, by simp, by simp⟩
        · unfold core
          rw [List.nil_append, dropWhile_of (by omega), sign_of (by omega) (by omega)]
          exact strip_end (L := []) (by omega)
        · rw [List.nil_append, dropWhile_of (by omega), sign_of (by omega) (by omega)]
      · refine ⟨[48, d], ?_, ?_, ?_, digitsVal_zero, by simp, by simp⟩
        · unfold core
          rw [show [48] ++ [d] = 48 :: [d] from rfl, dropWhile_of (by decide), sign_of (by decide) (by decide)]
          exact strip_end (L := [48]) (by omega)
        · rw [show [48] ++ [d] = 48 :: [d] from rfl, dropWhile_of (by decide), sign_of (by decide) (by decide)]
        · intro c hc
          simp at hc
          rcases hc with rfl | rfl
          · decide
          · exact hd
      · refine ⟨[d], ?_, ?_, hD, rfl, by simp, by simp⟩
        · unfold core
          rw [show [43] ++ [d] = 43 :: [d] from rfl, dropWhile_of (by decide)]
          exact strip_end (L := []) (by omega)
        · rw [show [43] ++ [d] = 43 :: [d] from rfl, dropWhile_of (by decide)]; rfl
      · have e : ([32] ++ [d]).dropWhile blank = [d] := by
          show (32 :: [d]).dropWhile blank = [d]
          rw [List.dropWhile_cons, if_pos (by decide), dropWhile_of (by omega)]
        refine ⟨[d], ?_, ?_, hD, rfl, by simp, by simp⟩
        · unfold core
          rw [e, sign_of (by omega) (by omega)]
          exact strip_end (L := []) (by omega)
        · rw [e, sign_of (by omega) (by omega)]
    · obtain ⟨E, c1, c2, c3, c4, c5⟩ := core_pre hp hDd hi hlast
      have hcl := core_length (p ++ D.dropLast ++ [D.getLast hne])
      rw [List.append_assoc, hD2] at c1 c2 hcl
      refine ⟨_, c1, c2, ?_, ?_, by simp, ?_⟩
      · exact dig_app c3 fun c hc => by rw [List.mem_singleton.mp hc]; exact hD _ (List.getLast_mem hne)
      · rw [digitsVal_snoc, c4, ← digitsVal_snoc, hD2]
      · rw [c1] at hcl
        have : p.length ≤ 1 := by rcases hp with rfl | rfl | rfl | rfl <;> simp
        rw [List.length_append (as := p) (bs := D)] at hcl
        omega
  obtain ⟨E, c1, c2, c3, c4, c5, c6⟩ := key
  unfold PySem.intText?
  rw [e1, e2, hx, if_pos (beq_self_eq_true _), c1, digits_of c3 c5, c2]
  have hsz := push_size E #[]
  have hv := push_foldl E #[]
  show (if _ ≤ 4300 then some (worth false _) else none) = _
  rw [if_pos (by rw [hsz]; simp only [Array.size_empty]; omega)]
  unfold worth
  rw [hv, ← c4]
  rfl
theorem int_bad {x : PySem.Str} {p D : List Nat} (hx : x.cps.toList = p ++ D ++ [121]) (hp : PreOk p) (hD : AllDigits D) (hne : D ≠ []) : digits? 10 (core (numSeenOf x)) = none := by
  have hc := pre_codes hp hD
  obtain ⟨_, e2⟩ := text_plain (x := x) (by
    rw [hx]; intro c h
    rcases List.mem_append.mp h with h | h
    · have := hc c h; omega
    · rw [List.mem_singleton.mp h]; decide)
  obtain ⟨E, c1, _, c3, _, c5⟩ := core_pre (c := 121) hp hD hne (by decide)
  rw [e2, hx, c1]
  exact digits_y c3 c5
/-! the port's figures -/
theorem port_figs : ∀ n : Nat, n < 1024 → (((PySem.Str.ofString (toString (n : Int))).cps.toList.all fun c => decide (48 ≤ c) && decide (c ≤ 57)) && decide ((PySem.Str.ofString (toString (n : Int))).cps.toList ≠ []) && decide ((PySem.Str.ofString (toString (n : Int))).cps.toList.length ≤ 4) && (digitsVal (PySem.Str.ofString (toString (n : Int))).cps.toList == n)) = true := by decide +kernel
theorem port_dig {n : Int} (h0 : 0 ≤ n) (h1 : n < 1024) : AllDigits (PySem.Str.ofString (toString n)).cps.toList ∧ (PySem.Str.ofString (toString n)).cps.toList ≠ [] ∧ (PySem.Str.ofString (toString n)).cps.toList.length ≤ 4 ∧ ((digitsVal (PySem.Str.ofString (toString n)).cps.toList : Nat) : Int) = n := by
  obtain ⟨k, rfl⟩ : ∃ k : Nat, n = (k : Int) := ⟨n.toNat, by omega⟩
  have h := port_figs k (by omega)
  simp only [Bool.and_eq_true, List.all_eq_true, decide_eq_true_eq, beq_iff_eq] at h
  exact ⟨fun c hc => h.1.1.1 c hc, h.1.1.2, h.1.2, by rw [h.2]⟩
theorem code_figs : ∀ n : Nat, n < 1000 → n ≠ 229 → (((PySem.Str.ofString (toString (n : Int))).cps.toList ++ [32, 40]).take 3 == [50, 50, 57]) = false := by decide +kernel
end Mine
end
section
open PySem PySem.W PySem.Spec PySem.Calls PySem.NumText PyProof.Rows
set_option maxRecDepth 100000
namespace Mine
open PySem.StrLaws PySem.Builtin.Str
noncomputable def MkOk (m : Nat) : Prop := m = 124 ∨ m = 33 ∨ m = 34 ∨ m = 120
noncomputable def FdOk (f : List Nat) : Prop := f = [] ∨ f = [50] ∨ f = [58, 58, 32, 45]
theorem mk_codes (c : Int) : ∃ m, mkS c = ⟨#[m]⟩ ∧ MkOk m := by
  have h0 : 0 ≤ (c.fdiv 1024).fmod 4 := Int.fmod_nonneg_of_pos _ (by decide)
  have h1 : (c.fdiv 1024).fmod 4 < 4 := Int.fmod_lt_of_pos _ (by decide)
  unfold mkS
  generalize (c.fdiv 1024).fmod 4 = i at *
  have : i = 0 ∨ i = 1 ∨ i = 2 ∨ i = 3 := by omega
  rcases this with rfl | rfl | rfl | rfl
  · exact ⟨124, by rfl, .inl rfl⟩
  · exact ⟨33, by rfl, .inr (.inl rfl)⟩
  · exact ⟨34, by rfl, .inr (.inr (.inl rfl))⟩
  · exact ⟨120, by rfl, .inr (.inr (.inr rfl))⟩
theorem fd_codes (c : Int) : FdOk (fdS c).cps.toList := by
  have h0 : 0 ≤ ((c.fdiv 1024).fdiv 4).fmod 3 := Int.fmod_nonneg_of_pos _ (by decide)
  have h1 : ((c.fdiv 1024).fdiv 4).fmod 3 < 3 := Int.fmod_lt_of_pos _ (by decide)
  unfold fdS
  generalize ((c.fdiv 1024).fdiv 4).fmod 3 = i at *
  have : i = 0 ∨ i = 1 ∨ i = 2 := by omega
  rcases this with rfl | rfl | rfl
  · exact .inl rfl
  · exact .inr (.inl rfl)
  · exact .inr (.inr rfl)
theorem pt_codes (c : Int) : ∃ p, (ptS c).cps.toList = p ++ (PySem.Str.ofString (toString (c.fmod 1024))).cps.toList ∧ PreOk p := by
  have h0 : 0 ≤ ((c.fdiv 1024).fdiv 12).fmod 4 := Int.fmod_nonneg_of_pos _ (by decide)
  have h1 : ((c.fdiv 1024).fdiv 12).fmod 4 < 4 := Int.fmod_lt_of_pos _ (by decide)
  unfold ptS
  rw [app_toList]
  generalize ((c.fdiv 1024).fdiv 12).fmod 4 = i at *
  have : i = 0 ∨ i = 1 ∨ i = 2 ∨ i = 3 := by omega
  rcases this with rfl | rfl | rfl | rfl
  · exact ⟨[], rfl, .inl rfl⟩
  · exact ⟨[48], rfl, .inr (.inl rfl)⟩
  · exact ⟨[43], rfl, .inr (.inr (.inl rfl))⟩
  · exact ⟨[32], rfl, .inr (.inr (.inr rfl))⟩
theorem mk_ne {m z : Nat} (h : MkOk m) (hz : z = 40 ∨ z = 41 ∨ z = 121 ∨ z = 43 ∨ z = 32 ∨ z = 45 ∨ z = 50 ∨ z = 58) : z ≠ m := by
  intro e
  subst e
  rcases h with rfl | rfl | rfl | rfl <;> exact absurd hz (by decide)
theorem fd_free {m z : Nat} {f : List Nat} (hm : MkOk m) (hf : FdOk f) (hz : z = 40 ∨ z = 41 ∨ z = 121 ∨ z = m) : z ∉ f := by
  have key : ∀ c, (c = 40 ∨ c = 41 ∨ c = 121 ∨ c = 124 ∨ c = 33 ∨ c = 34 ∨ c = 120) → c ∉ ([] : List Nat) ∧ c ∉ [50] ∧ c ∉ [58, 58, 32, 45] := by
    intro c hc
    rcases hc with rfl | rfl | rfl | rfl | rfl | rfl | rfl <;> decide
  have hc : z = 40 ∨ z = 41 ∨ z = 121 ∨ z = 124 ∨ z = 33 ∨ z = 34 ∨ z = 120 := by
    rcases hz with h | h | h | rfl
    · exact .inl h
    · exact .inr (.inl h)
    · exact .inr (.inr (.inl h))
    · exact .inr (.inr (.inr hm))
  rcases hf with rfl | rfl | rfl
  · exact (key z hc).1
  · exact (key z hc).2.1
  · exact (key z hc).2.2
theorem pt_free {m z : Nat} {p D : List Nat} (hm : MkOk m) (hp : PreOk p) (hD : AllDigits D) (hz : z = 40 ∨ z = 41 ∨ z = 121 ∨ z = m) : z ∉ p ++ D := by
  have key : ∀ c, (c = 40 ∨ c = 41 ∨ c = 121 ∨ c = 124 ∨ c = 33 ∨ c = 34 ∨ c = 120) → ¬ (48 ≤ c ∧ c ≤ 57) ∧ c ∉ ([] : List Nat) ∧ c ∉ [48] ∧ c ∉ [43] ∧ c ∉ [32] := by
    intro c hc
    rcases hc with rfl | rfl | rfl | rfl | rfl | rfl | rfl <;> decide
  have hc : z = 40 ∨ z = 41 ∨ z = 121 ∨ z = 124 ∨ z = 33 ∨ z = 34 ∨ z = 120 := by
    rcases hz with h | h | h | rfl
    · exact .inl h
    · exact .inr (.inl h)
    · exact .inr (.inr (.inl h))
    · exact .inr (.inr (.inr hm))
  have k := key z hc
  intro h
  rcases List.mem_append.mp h with h | h
  · rcases hp with rfl | rfl | rfl | rfl
    · exact k.2.1 h
    · exact k.2.2.1 h
    · exact k.2.2.2.1 h
    · exact k.2.2.2.2 h
  · exact k.1 (hD z h)
/-- the codes of a reply's inside -/
structure Inside (c : Int) (m : Nat) (f p D : List Nat) : Prop where
  hm : MkOk m
  em : mkS c = ⟨#[m]⟩
  hf : FdOk f
  ef : (fdS c).cps.toList = f
  hp : PreOk p
  et : (ptS c).cps.toList = p ++ D
  hD : AllDigits D
  nD : D ≠ []
  lD : D.length ≤ 4
  vD : ((digitsVal D : Nat) : Int) = c.fmod 1024
theorem inside_of (c : Int) : ∃ m f p D, Inside c m f p D := by
  obtain ⟨m, em, hm⟩ := mk_codes c
  obtain ⟨p, et, hp⟩ := pt_codes c
  obtain ⟨d1, d2, d3, d4⟩ := port_dig (n := c.fmod 1024) (fm_nn' (by decide)) (fm_lt' (by decide))
  exact ⟨m, _, p, _, hm, em, fd_codes c, rfl, hp, et, d1, d2, d3, d4⟩
where
  fm_nn' {a b : Int} (h : 0 < b) : 0 ≤ a.fmod b := Int.fmod_nonneg_of_pos _ h
  fm_lt' {a b : Int} (h : 0 < b) : a.fmod b < b := Int.fmod_lt_of_pos _ h
namespace Inside
variable {c : Int} {m : Nat} {f p D : List Nat} (I : Inside c m f p D)
include I
theorem inC : (inS c).cps.toList = m :: (f ++ m :: (f ++ m :: (p ++ D ++ [m]))) := by
  unfold inS
  simp only [app_toList, I.em, I.ef, I.et, List.append_assoc]
  simp
theorem fFree {z : Nat} (hz : z = 40 ∨ z = 41 ∨ z = 121 ∨ z = m) : z ∉ f := fd_free I.hm I.hf hz
theorem tFree {z : Nat} (hz : z = 40 ∨ z = 41 ∨ z = 121 ∨ z = m) : z ∉ p ++ D := pt_free I.hm I.hp I.hD hz
theorem inFree {z : Nat} (hz : z = 40 ∨ z = 41 ∨ z = 121) : z ∉ m :: (f ++ m :: (f ++ m :: (p ++ D ++ [m]))) := by
  have hz' : z = 40 ∨ z = 41 ∨ z = 121 ∨ z = m := by
    rcases hz with h | h | h
    · exact .inl h
    · exact .inr (.inl h)
    · exact .inr (.inr (.inl h))
  have h1 : z ∉ f := I.fFree hz'
  have h2 : z ∉ p ++ D := I.tFree hz'
  have h3 : z ≠ m := mk_ne I.hm (by
    rcases hz with h | h | h
    · exact .inl h
    · exact .inr (.inl h)
    · exact .inr (.inr (.inl h)))
  simp only [List.mem_cons, List.mem_append, not_or] at h2 ⊢
  exact ⟨h3, h1, h3, h1, h3, ⟨h2, h3, fun h => nomatch h⟩⟩
theorem fLen : f.length ≤ 4 := by rcases I.hf with rfl | rfl | rfl <;> simp
theorem pLen : p.length ≤ 1 := by rcases I.hp with rfl | rfl | rfl | rfl <;> simp
omit I in
theorem parts : m :: (f ++ m :: (f ++ m :: (p ++ D ++ [m]))) = joinL m [[], f, f, p ++ D, []] := by
  show _ = [] ++ m :: (f ++ m :: (f ++ m :: (p ++ D ++ m :: [])))
  simp
end Inside
theorem lit0 : (PySem.Str.ofString "229 so) (").cps.toList = [50, 50, 57, 32, 115, 111, 41, 32, 40] := rfl
theorem lit1 : (PySem.Str.ofString ") (").cps.toList = [41, 32, 40] := rfl
theorem lit2 : (PySem.Str.ofString ")").cps.toList = [41] := rfl
theorem lit3 : (PySem.Str.ofString " (").cps.toList = [32, 40] := rfl
theorem lit4 : (PySem.Str.ofString "229 2").cps.toList = [50, 50, 57, 32, 50] := rfl
theorem lit5 : (PySem.Str.ofString "2)").cps.toList = [50, 41] := rfl
theorem lit6 : (PySem.Str.ofString "229 )(").cps.toList = [50, 50, 57, 32, 41, 40] := rfl
theorem lit7 : (PySem.Str.ofString "y").cps.toList = [121] := rfl
theorem lit8 : (PySem.Str.ofString "229 (").cps.toList = [50, 50, 57, 32, 40] := rfl
theorem lit9 : (PySem.Str.ofString "229 ()").cps.toList = [50, 50, 57, 32, 40, 41] := rfl
theorem lit10 : (PySem.Str.ofString "y)").cps.toList = [121, 41] := rfl

section
variable {c : Int}
theorem rep_get {n : Nat} {i : Int} {y : PySem.Str} (hi : i = (n : Int)) (h : (repliesS c)[n]? = some y) : replyS c i = y := by
  subst hi
  unfold replyS
  rw [Int.toNat_natCast, List.getD_eq_getElem?_getD, h]; rfl
theorem third {x v : PySem.Str} {a b d e : List Nat} {t : List Nat} (h : (par x).map (fun p => p.cps.toList) = [a, b, d, t, e]) (hv : (3, (par x).getD 3 (PySem.Str.ofString "")) = ((3 : Nat), v)) : v.cps.toList = t := by
  injection hv with _ hv
  rw [← hv]
  have : ((par x).map fun p => p.cps.toList)[3]? = some t := by rw [h]; rfl
  rw [List.getElem?_map] at this
  rw [List.getD_eq_getElem?_getD]
  cases hg : (par x)[3]? with
  | none => rw [hg] at this; cases this
  | some y => rw [hg] at this; exact Option.some.inj this
theorem all5 {m : Nat} {a b d t e : List Nat} (h1 : m ∉ a) (h2 : m ∉ b) (h3 : m ∉ d) (h4 : m ∉ t) (h5 : m ∉ e) : ∀ q ∈ [a, b, d, t, e], m ∉ q := by
  intro q hq
  simp only [List.mem_cons, List.not_mem_nil, or_false] at hq
  rcases hq with rfl | rfl | rfl | rfl | rfl <;> assumption
theorem nil_free {m : Nat} : m ∉ ([] : List Nat) := fun h => nomatch h
theorem reply_0 : Pre229 (replyS c 0) ∧ Num229 (replyS c 0) (c.fmod 1024) ∧ (out229 (replyS c 0)).1 = 3 := by
  obtain ⟨m, f, p, D, I⟩ := inside_of c
  have e : (replyS c 0).cps.toList = [50, 50, 57, 32, 115, 111, 41, 32] ++ 40 :: (m :: (f ++ m :: (f ++ m :: (p ++ D ++ [m]))) ++ 41 :: [32, 40, m, 41]) := by
    rw [rep_get (i := 0) (n := 0) rfl rfl]
    simp only [app_toList, I.inC, I.em, lit0, lit1, lit2]
    simp
  have ht := I.tFree (z := m) (.inr (.inr (.inr rfl)))
  have hfm := I.fFree (z := m) (.inr (.inr (.inr rfl)))
  obtain ⟨q1, _, q3⟩ := out_parts (B' := m :: (f ++ m :: (f ++ m :: (p ++ D)))) ⟨_, e⟩ e (by decide) (I.inFree (by decide)) rfl (by simp) Inside.parts (by simp) (all5 nil_free hfm hfm ht nil_free)
  have q4 := q3 rfl
  have fl := I.fLen
  have pl := I.pLen
  have dl := I.lD
  refine ⟨pre_of ?_, ?_, by rw [q4]⟩
  · rw [len_codes, e]; simp; omega
  · intro v hv
    rw [q4] at hv
    have hvc := third q1 hv
    refine ⟨?_, by rw [len_codes, hvc, List.length_append]; omega⟩
    rw [int_port hvc I.hp I.hD I.nD I.lD, I.vD]
theorem code_ne (n : Nat) (h : n < 1000) : (PySem.Str.ofString (toString (n : Int))).cps.toList ≠ [] := (port_dig (n := (n : Int)) (by omega) (by omega)).2.1
theorem code_bad {x : PySem.Str} {d : List Nat} (h : (Txt.slice x none (some ((3 : Nat) : Int))).cps.toList = d) (hd : (d == [50, 50, 57]) = false) : (Txt.slice x none (some 3) != PySem.Str.ofString "229") = true := by
  rw [bne_iff_ne]
  intro h2
  have h3 : (Txt.slice x none (some ((3 : Nat) : Int))).cps.toList = [50, 50, 57] := congrArg (fun y => y.cps.toList) h2
  rw [← h, h3, beq_self_eq_true] at hd
  cases hd
theorem reply_1 : Pre229 (replyS c 1) ∧ (out229 (replyS c 1)).1 = 1 := by
  obtain ⟨m, f, p, D, I⟩ := inside_of c
  have e : (replyS c 1).cps.toList = ((PySem.Str.ofString (toString ((230 + (c.fdiv 1024).fmod 999).fmod 1000))).cps.toList ++ [32, 40]) ++ (m :: (f ++ m :: (f ++ m :: (p ++ D ++ [m]))) ++ [41]) := by
    rw [rep_get (i := 1) (n := 1) rfl rfl]
    simp only [app_toList, I.inC, lit3, lit2]
    simp
  have fl := I.fLen
  have pl := I.pLen
  have dl := I.lD
  have a0 : 0 ≤ (c.fdiv 1024).fmod 999 := Int.fmod_nonneg_of_pos _ (by decide)
  have a1 : (c.fdiv 1024).fmod 999 < 999 := Int.fmod_lt_of_pos _ (by decide)
  generalize hr : (c.fdiv 1024).fmod 999 = r at *
  have b : (230 + r).fmod 1000 = (230 + r) % 1000 := by rw [Int.fmod_eq_emod_of_nonneg _ (by decide)]
  obtain ⟨n, hn⟩ : ∃ n : Nat, (230 + r).fmod 1000 = (n : Int) := ⟨((230 + r).fmod 1000).toNat, by omega⟩
  have hc := code_figs n (by omega) (by omega)
  have ln := len_num (n := (n : Int)) (by omega) (by omega)
  rw [hn] at e
  rw [len_codes] at ln
  have hpos : (PySem.Str.ofString (toString (n : Int))).cps.toList ≠ [] := code_ne n (by omega)
  generalize (PySem.Str.ofString (toString (n : Int))).cps.toList = d at *
  have hpos := List.length_pos_iff.mpr hpos
  have hz : (replyS c 1).length ≤ 2000 := by
    rw [len_codes, e]
    simp only [List.length_append, List.length_cons, List.length_nil]; omega
  have hl3 : 3 ≤ (replyS c 1).length := by
    rw [len_codes, e]
    simp only [List.length_append, List.length_cons, List.length_nil]; omega
  have hcut : (Txt.slice (replyS c 1) none (some ((3 : Nat) : Int))).cps.toList = (d ++ [32, 40]).take 3 := by
    rw [slice_head hl3, e, List.take_append_of_le_length]
    simp only [List.length_append, List.length_cons, List.length_nil]; omega
  have hne := code_bad hcut hc
  exact ⟨pre_of hz, by rw [out_1 hne]⟩
theorem reply_2 : Pre229 (replyS c 2) ∧ (out229 (replyS c 2)).1 = 2 := by
  obtain ⟨m, f, p, D, I⟩ := inside_of c
  obtain ⟨d1, d2, d3, d4⟩ := port_dig (n := c.fmod 1024) (Int.fmod_nonneg_of_pos _ (by decide)) (Int.fmod_lt_of_pos _ (by decide))
  have e : (replyS c 2).cps.toList = c229 ++ ([32, 50] ++ ((PySem.Str.ofString (toString (c.fmod 1024))).cps.toList.map sub27 ++ [50, 41])) := by
    rw [rep_get (i := 2) (n := 2) rfl rfl]
    simp only [app_toList, replace27, lit4, lit5]
    simp
  generalize (PySem.Str.ofString (toString (c.fmod 1024))).cps.toList = d at *
  refine ⟨pre_of ?_, out_no_left ⟨_, e⟩ ?_⟩
  · rw [len_codes, e]; simp; omega
  · rw [e]
    simp only [List.mem_append, List.mem_map, not_or]
    refine ⟨by decide, by decide, ?_, by decide⟩
    rintro ⟨z, hz, h⟩
    have := d1 z hz
    unfold sub27 at h
    split at h <;> omega
theorem reply_3 : Pre229 (replyS c 3) ∧ (out229 (replyS c 3)).1 = 2 := by
  obtain ⟨m, f, p, D, I⟩ := inside_of c
  have e : (replyS c 3).cps.toList = [50, 50, 57, 32, 41] ++ 40 :: (m :: (f ++ m :: (f ++ m :: (p ++ D ++ [m]))) ++ [121]) := by
    rw [rep_get (i := 3) (n := 3) rfl rfl]
    simp only [app_toList, I.inC, lit6, lit7]
    simp
  have fl := I.fLen
  have pl := I.pLen
  have dl := I.lD
  refine ⟨pre_of ?_, out_no_right ⟨_, e⟩ e (by decide) ?_⟩
  · rw [len_codes, e]; simp; omega
  · rw [List.mem_append, not_or]; exact ⟨I.inFree (by decide), by decide⟩
theorem reply_4 : Pre229 (replyS c 4) ∧ (out229 (replyS c 4)).1 = 2 := by
  obtain ⟨m, f, p, D, I⟩ := inside_of c
  have e : (replyS c 4).cps.toList = [50, 50, 57, 32] ++ 40 :: (m :: (f ++ m :: (f ++ m :: (p ++ D ++ [m]))) ++ [121]) := by
    rw [rep_get (i := 4) (n := 4) rfl rfl]
    simp only [app_toList, I.inC, lit8, lit7]
    simp
  have fl := I.fLen
  have pl := I.pLen
  have dl := I.lD
  refine ⟨pre_of ?_, out_no_right ⟨_, e⟩ e (by decide) ?_⟩
  · rw [len_codes, e]; simp; omega
  · rw [List.mem_append, not_or]; exact ⟨I.inFree (by decide), by decide⟩
theorem reply_5 : Pre229 (replyS c 5) ∧ (out229 (replyS c 5)).1 = 2 := by
  obtain ⟨m, f, p, D, I⟩ := inside_of c
  have e : (replyS c 5).cps.toList = [50, 50, 57, 32] ++ 40 :: ([] ++ 41 :: (m :: (f ++ m :: (f ++ m :: (p ++ D ++ [m]))) ++ [41])) := by
    rw [rep_get (i := 5) (n := 5) rfl rfl]
    simp only [app_toList, I.inC, lit9, lit2]
    simp
  have fl := I.fLen
  have pl := I.pLen
  have dl := I.lD
  refine ⟨pre_of ?_, out_ends (a := 41) (b := 40) (B' := []) ⟨_, e⟩ e (by decide) nil_free rfl rfl (by decide)⟩
  rw [len_codes, e]; simp; omega
theorem reply_6 : Pre229 (replyS c 6) ∧ (out229 (replyS c 6)).1 = 2 := by
  obtain ⟨m, f, p, D, I⟩ := inside_of c
  have e : (replyS c 6).cps.toList = [50, 50, 57, 32] ++ 40 :: ((m :: (f ++ m :: (f ++ m :: (p ++ D ++ [m]))) ++ [121]) ++ 41 :: []) := by
    rw [rep_get (i := 6) (n := 6) rfl rfl]
    simp only [app_toList, I.inC, lit8, lit10]
    simp
  have fl := I.fLen
  have pl := I.pLen
  have dl := I.lD
  refine ⟨pre_of ?_, out_ends (a := m) (b := 121) (B' := 40 :: (m :: (f ++ m :: (f ++ m :: (p ++ D ++ [m]))))) ⟨_, e⟩ e (by decide) ?_ rfl rfl (mk_ne I.hm (by decide)).symm⟩
  · rw [len_codes, e]; simp; omega
  · rw [List.mem_append, not_or]; exact ⟨I.inFree (by decide), by decide⟩
theorem reply_7 : Pre229 (replyS c 7) ∧ (out229 (replyS c 7)).1 = 2 := by
  obtain ⟨m, f, p, D, I⟩ := inside_of c
  have e : (replyS c 7).cps.toList = [50, 50, 57, 32] ++ 40 :: ((m :: m :: (f ++ m :: (f ++ m :: (p ++ D ++ [m])))) ++ 41 :: []) := by
    rw [rep_get (i := 7) (n := 7) rfl rfl]
    simp only [app_toList, I.inC, I.em, lit8, lit2]
    simp
  have ht := I.tFree (z := m) (.inr (.inr (.inr rfl)))
  have hfm := I.fFree (z := m) (.inr (.inr (.inr rfl)))
  have fl := I.fLen
  have pl := I.pLen
  have dl := I.lD
  have hB : 41 ∉ m :: m :: (f ++ m :: (f ++ m :: (p ++ D ++ [m]))) := by
    rw [List.mem_cons, not_or]; exact ⟨mk_ne I.hm (by decide), I.inFree (by decide)⟩
  obtain ⟨_, q2, _⟩ := out_parts (B' := m :: m :: (f ++ m :: (f ++ m :: (p ++ D)))) (ps := [[], [], f, f, p ++ D, []]) ⟨_, e⟩ e (by decide) hB rfl (by simp) (congrArg (List.cons m) Inside.parts) (by simp) (by
    intro q hq
    rcases List.mem_cons.mp hq with rfl | hq
    · exact nil_free
    · exact all5 nil_free hfm hfm ht nil_free q hq)
  refine ⟨pre_of ?_, q2 (by simp)⟩
  rw [len_codes, e]; simp; omega
theorem reply_8 : Pre229 (replyS c 8) ∧ (out229 (replyS c 8)).1 = 2 := by
  obtain ⟨m, f, p, D, I⟩ := inside_of c
  have e : (replyS c 8).cps.toList = [50, 50, 57, 32] ++ 40 :: ((f ++ m :: (f ++ m :: (p ++ D ++ [m]))) ++ 41 :: []) := by
    rw [rep_get (i := 8) (n := 8) rfl rfl]
    simp only [app_toList, slice_tail (x := inS c) (by rw [len_codes, I.inC]; simp), I.inC, lit8, lit2]
    simp
  have ht := I.tFree (z := m) (.inr (.inr (.inr rfl)))
  have hfm := I.fFree (z := m) (.inr (.inr (.inr rfl)))
  have fl := I.fLen
  have pl := I.pLen
  have dl := I.lD
  have hB : 41 ∉ f ++ m :: (f ++ m :: (p ++ D ++ [m])) := fun h => I.inFree (z := 41) (by decide) (.tail _ h)
  refine ⟨pre_of (by rw [len_codes, e]; simp; omega), ?_⟩
  rcases I.hf with rfl | rfl | rfl
  · obtain ⟨_, q2, _⟩ := out_parts (B' := m :: m :: (p ++ D)) (ps := [[], [], p ++ D, []]) ⟨_, e⟩ e (by decide) hB rfl (by simp) (by show _ = [] ++ m :: ([] ++ m :: (p ++ D ++ m :: [])); simp) (by simp) (by
      intro q hq
      simp only [List.mem_cons, List.not_mem_nil, or_false] at hq
      rcases hq with rfl | rfl | rfl | rfl <;> first | exact nil_free | exact ht)
    exact q2 (by simp)
  · exact out_ends (a := 50) (b := m) (B' := 40 :: ([50] ++ m :: ([50] ++ m :: (p ++ D)))) ⟨_, e⟩ e (by decide) hB rfl (by simp) (mk_ne I.hm (by decide))
  · exact out_ends (a := 58) (b := m) (B' := 40 :: ([58, 58, 32, 45] ++ m :: ([58, 58, 32, 45] ++ m :: (p ++ D)))) ⟨_, e⟩ e (by decide) hB rfl (by simp) (mk_ne I.hm (by decide))
theorem reply_9 : Pre229 (replyS c 9) ∧ Bad229 (replyS c 9) := by
  obtain ⟨m, f, p, D, I⟩ := inside_of c
  have hin : (inS c).cps.toList.take ((inS c).length - 1) = m :: (f ++ m :: (f ++ m :: (p ++ D))) := by
    have e1 : (inS c).cps.toList = (m :: (f ++ m :: (f ++ m :: (p ++ D)))) ++ [m] := by rw [I.inC]; simp
    rw [len_codes, e1, List.length_append]
    exact List.take_left
  have e : (replyS c 9).cps.toList = [50, 50, 57, 32] ++ 40 :: ((m :: (f ++ m :: (f ++ m :: (p ++ D ++ [121] ++ [m])))) ++ 41 :: []) := by
    rw [rep_get (i := 9) (n := 9) rfl rfl]
    simp only [app_toList, slice_init (x := inS c) (by rw [len_codes, I.inC]; simp), hin, I.em, lit8, lit2, lit7]
    simp
  have ht := I.tFree (z := m) (.inr (.inr (.inr rfl)))
  have hfm := I.fFree (z := m) (.inr (.inr (.inr rfl)))
  have hty : m ∉ p ++ D ++ [121] := by
    rw [List.mem_append, not_or]
    exact ⟨ht, by rw [List.mem_singleton]; exact (mk_ne I.hm (by decide)).symm⟩
  have fl := I.fLen
  have pl := I.pLen
  have dl := I.lD
  have hB : 41 ∉ m :: (f ++ m :: (f ++ m :: (p ++ D ++ [121] ++ [m]))) := by
    have h := I.inFree (z := 41) (by decide)
    simp only [List.mem_cons, List.mem_append, not_or] at h ⊢
    obtain ⟨a1, a2, a3, a4, a5, ⟨a6, a7⟩⟩ := h
    exact ⟨a1, a2, a3, a4, a5, ⟨a6, by decide, nil_free⟩, a7⟩
  obtain ⟨q1, _, q3⟩ := out_parts (B' := m :: (f ++ m :: (f ++ m :: (p ++ D ++ [121])))) (ps := [[], f, f, p ++ D ++ [121], []]) ⟨_, e⟩ e (by decide) hB rfl (by simp)
    (by show _ = [] ++ m :: (f ++ m :: (f ++ m :: (p ++ D ++ [121] ++ m :: []))); simp) (by simp) (all5 nil_free hfm hfm hty nil_free)
  have q4 := q3 rfl
  refine ⟨pre_of (by rw [len_codes, e]; simp; omega), by rw [q4], fun v hv => ?_⟩
  rw [q4] at hv
  have hvc := third q1 hv
  have hlen : v.length ≤ 6 := by rw [len_codes, hvc]; simp; omega
  refine ⟨int_bad hvc I.hp I.hD I.nD, by omega, ?_⟩
  have hr := reprText_len v (by
    rw [hvc]; intro z hz
    rcases List.mem_append.mp hz with hz | hz
    · have := pre_codes I.hp I.hD z hz
      have e16 : (16 : Nat) ^ 8 = 4294967296 := by decide
      omega
    · rw [List.mem_singleton.mp hz]; decide)
  rw [sizeLine_eq]; omega
theorem reply_28 {f : Int} (hf : 2 ≤ f) (hg : f ≤ 8) : Pre229 (replyS c f) ∧ (out229 (replyS c f)).1 = 2 := by
  have : f = 2 ∨ f = 3 ∨ f = 4 ∨ f = 5 ∨ f = 6 ∨ f = 7 ∨ f = 8 := by omega
  rcases this with rfl | rfl | rfl | rfl | rfl | rfl | rfl
  · exact reply_2
  · exact reply_3
  · exact reply_4
  · exact reply_5
  · exact reply_6
  · exact reply_7
  · exact reply_8
end
end Mine
end
section
open PySem PySem.W PySem.Spec PySem.Calls PyProof.Rows
set_option maxRecDepth 100000
namespace Mine
/-! rules for law's own steps -/
theorem news_dup {h₀ h : Heap} {L : Addr} {p : Addr × Obj} {l : Ledger} (N : News h₀ L h l) (hm : p ∈ l) : News h₀ L h (p :: l) := fun q hq => by
  rcases List.mem_cons.mp hq with rfl | hq
  · exact N _ hm
  · exact N _ hq
theorem news_dup2 {h₀ h : Heap} {L : Addr} {p q : Addr × Obj} {l : Ledger} (N : News h₀ L h l) (hp : p ∈ l) (hq : q ∈ l) : News h₀ L h (p :: q :: l) := news_dup (news_dup N hq) (.tail _ hp)
theorem news_undup {h₀ h : Heap} {L : Addr} {a p : Addr × Obj} {l : Ledger} (N : News h₀ L h (a :: p :: l)) : News h₀ L h (a :: l) := fun q hq => by
  rcases List.mem_cons.mp hq with rfl | hq
  · exact N _ (.head _)
  · exact N _ (.tail _ (.tail _ hq))
theorem news_undup2 {h₀ h : Heap} {L : Addr} {a b c p q : Addr × Obj} {l : Ledger} (N : News h₀ L h (a :: b :: c :: p :: q :: l)) : News h₀ L h (a :: b :: c :: l) := fun x hx => by
  rcases List.mem_cons.mp hx with rfl | hx
  · exact N _ (.head _)
  rcases List.mem_cons.mp hx with rfl | hx
  · exact N _ (.tail _ (.head _))
  rcases List.mem_cons.mp hx with rfl | hx
  · exact N _ (.tail _ (.tail _ (.head _)))
  · exact N _ (.tail _ (.tail _ (.tail _ (.tail _ (.tail _ hx)))))
theorem news_apart {h₀ h : Heap} {L : Addr} {a b : Addr} {o o' : Obj} {l : Ledger} (N : News h₀ L h l) (hp : (a, o) ∈ l) (hq : (b, o') ∈ l) (hd : o.data ≠ o'.data) : @Ne Nat a b := by
  intro e
  have h1 := (N _ hp).1
  have h2 := (N _ hq).1
  have e' : a = b := e
  subst e'
  have h3 : o = o' := Option.some.inj (h1.symm.trans h2)
  exact hd (by rw [h3])
theorem seq_cell {o : Obj} {v : Option Value} {vs : Array Value} {n : Nat} (h : o.data = Data.cell v) : Data.seq vs n ≠ o.data := by rw [h]; exact fun e => nomatch e
section
variable {prog : Program} {w : World} {A : Around} {E : Value → Shared → Prop} {s : Shared} {a b : Addr} {Q : Value → Shared → Prop} {h₀ : Heap} {L : Addr} {m : Names} {news : Ledger}
theorem ne_same {x : PySem.Str} {t u : Tok} (h : Q (.bool false) s) : wpAny (model prog w) A (compareOp .NotEq (.str x t) (.str x u)) Q E s := by
  refine ne_str ?_
  rw [bne_self_eq_false]; exact h
theorem host_ok (c : Int) : PyData.strOk (PySem.Str.ofString "::" ++ PySem.Str.ofString (toString (c.fmod 9))) = true := by
  have h0 : 0 ≤ c.fmod 9 := Int.fmod_nonneg_of_pos _ (by decide)
  have h1 : c.fmod 9 < 9 := Int.fmod_lt_of_pos _ (by decide)
  have key : ∀ k : Nat, k < 9 → PyData.strOk (PySem.Str.ofString "::" ++ PySem.Str.ofString (toString (k : Int))) = true := by decide +kernel
  have := key (c.fmod 9).toNat (by omega)
  rwa [Int.toNat_of_nonneg h0] at this
theorem tup_ne {y : PySem.Str} {n : Int} {t1 t2 t3 t4 : Tok} {k1 k2 : Nat} (N : News h₀ L s.heap news) (ha : (a, { cls := .type "tuple", data := .seq (List.toArray [.str y t1, .int n t2]) k1 }) ∈ news)
    (hb : (b, { cls := .type "tuple", data := .seq (List.toArray [.str y t3, .int n t4]) k2 }) ∈ news) (hy : PyData.strOk y = true) (hu : A.units + 64 < cLine) (h : Q (.bool false) s) :
    wpAny (model prog w) A (compareOp .NotEq (.ref a) (.ref b)) Q E s := by
  have sh : SeqAt.shaped (.tuple [.str y, .int n]) = true := by
    simp [SeqAt.shaped, PyData.canLay0, PyData.canLayAll0, PyData.depth, PyData.depthAll, hy]
  refine ne_dataH (reads_tuple_at (News.get N ha) rfl rfl (.cons (.str _ _) (.cons (.int _ _) .nil))) (reads_tuple_at (News.get N hb) rfl rfl (.cons (.str _ _) (.cons (.int _ _) .nil))) sh sh hu ?_
  have : PyData.eqv (.tuple [.str y, .int n]) (.tuple [.str y, .int n]) = true := by simp [PyData.eqv, PyData.eqvAll]
  rw [this]; exact h
theorem eq_nil {vs ws : List Value} {ns : List Int} {n n2 : Nat} (N : News h₀ L s.heap news) (ha : (a, listOf (List.toArray vs) n) ∈ news) (hb : (b, listOf (List.toArray ws) n2) ∈ news) (hi : IntsAre vs ns) (hw : ws = []) (hl : ns.length = 13) (hu : A.units + 64 < cLine)
    (h : Q (.bool false) s) : wpAny (model prog w) A (compareOp .Eq (.ref a) (.ref b)) Q E s := by
  subst hw
  refine ke_eq_ints (News.isList N ha) (News.isList N hb) hi .nil hu ?_
  have : decide (ns = []) = false := decide_eq_false (by intro e; rw [e] at hl; cases hl)
  rw [this]; exact h
theorem law_str {n : Int} {t : Tok} (h0 : 0 ≤ n) (h1 : n < 1000000000) (h : ∀ t' k', Q (.str (PySem.Str.ofString (toString n)) t') { s with toks := k' }) : wpAny (model prog w) A (call (.type "str") [.int n t]) Q E s := my_str h0 h1 (h _ _)
end
theorem ap_arg {p c : Int} (h : 0 ≤ p) : (([p, -p] : List Int).getD ((c.fmod 2).toNat) 0).natAbs = p.toNat := by
  have h0 : 0 ≤ c.fmod 2 := Int.fmod_nonneg_of_pos _ (by decide)
  have h1 : c.fmod 2 < 2 := Int.fmod_lt_of_pos _ (by decide)
  have : (c.fmod 2).toNat = 0 ∨ (c.fmod 2).toNat = 1 := by omega
  rcases this with e | e <;> rw [e]
  · show p.natAbs = _; omega
  · show (-p).natAbs = _; omega
theorem fm_nn {a b : Int} (h : 0 < b) : 0 ≤ a.fmod b := Int.fmod_nonneg_of_pos _ h
theorem fm_lt {a b c : Int} (h : 0 < b) (hc : b ≤ c) : a.fmod b < c := Int.lt_of_lt_of_le (Int.fmod_lt_of_pos _ h) hc
theorem Inv.start' : Inv (portsOf C 0) (List.replicate (Int.toNat 13) [(0 : Int)]).flatten (List.replicate (Int.toNat 12) [(0 : Int)]).flatten := by
  have e1 : (List.replicate (Int.toNat 13) [(0 : Int)]).flatten = List.replicate 13 0 := by decide
  have e2 : (List.replicate (Int.toNat 12) [(0 : Int)]).flatten = List.replicate 12 0 := by decide
  rw [e1, e2]; exact Inv.start
theorem news_law {h₀ h : Heap} {L : Addr} {p0 p1 p2 p3 p4 p5 p6 q1 q2 q3 q4 : Addr × Obj} (N : News h₀ L h [p0, p1, p2, p3, p4, p5, p6, q1, q2, q3, q4]) : News h₀ L h [p4, p2, q2, q3, p0, p6, q1, q4] := fun q hq => N q (by
  simp only [List.mem_cons, List.not_mem_nil, or_false] at hq ⊢
  rcases hq with h | h | h | h | h | h | h | h <;> simp [h])
end Mine
end
section
open PySem PySem.W PySem.Spec PySem.Calls PyProof.Rows
set_option maxRecDepth 100000
namespace Mine
/-! contracts as law uses them -/
theorem c_port {w mean mg mb} {news : Ledger} (c q : Int) (y : PySem.Str) (pe : Addr) (tk tk2 tk3 : Tok) : CClaim w mean mg mb 2 75 news (fun _ => (0 ≤ c ∧ c < 100000000) ∧ (pe, tupOf [.str y tk2, .int q tk3]) ∈ news) [.str (replyS c 0) tk, .ref pe]
   (fun h₀ L m s Q _ => ∀ (p : Addr) (t : Tok) (h' : Heap) (tk' : Nat), Fr h₀ L h' m → News h₀ L h' ((p, tupOf [.str y tk2, .int (c.fmod 1024) t]) :: news) → AllLt p news → Q (.ref p) { s with heap := h', toks := tk' }) := by
  intro dp un gd cn cs a ccd cl outer A₀ base h₀ L m s Q E B F X N T hk hx hd9 hu9 hret
  obtain ⟨⟨h0, h1⟩, hm⟩ := hx
  obtain ⟨r1, r2, r3⟩ := reply_0 (c := c)
  refine c_parse229 (replyS c 0) y q (c.fmod 1024) pe tk tk2 tk3 dp un gd cn cs a ccd cl outer A₀ base h₀ L m s Q E B F X (news_dup N hm) T hk ⟨r1, r2⟩ hd9 hu9 ⟨fun p t h' tk' _ F' N' lt => hret p t h' tk' F' (news_undup N') lt.2, ?_⟩
  intro e t g h' tk' _ _ h3 _
  exact absurd r3 h3
theorem c_ap {w mean mg mb} {news : Ledger} (c : Int) (tk : Tok) : CClaim w mean mg mb 2 89 news (fun _ => True) [.int (([c.fmod 1024, -(c.fmod 1024)] : List Int).getD ((c.fmod 2).toNat) 0) tk]
   (fun h₀ L m s Q _ => ∀ (r : Array UInt8) (t : Tok) (h' : Heap) (tk' : Nat), r.toList = ap16 (portN c) → Fr h₀ L h' m → News h₀ L h' news → Q (.bytes r t) { s with heap := h', toks := tk' }) := by
  intro dp un gd cn cs a ccd cl outer A₀ base h₀ L m s Q E B F X N T hk _ hd9 hu9 hret
  have e : (([c.fmod 1024, -(c.fmod 1024)] : List Int).getD ((c.fmod 2).toNat) 0).natAbs = portN c := ap_arg (fm_nn (by decide))
  have lt := portN_lt c
  refine c_int2ap _ tk dp un gd cn cs a ccd cl outer A₀ base h₀ L m s Q E B F X N T hk (by rw [e]; omega) hd9 hu9 fun r t h' tk' hr F' N' => ?_
  rw [e] at hr
  exact hret r t h' tk' hr F' N'
theorem c_lay {w mean mg mb} {news : Ledger} {ps : List Nat} {B9 G : List Int} (lb : Addr) (vb : List Value) (nb : Nat) (W : Array UInt8) (cell : Int) (tw tc : Tok) :
  CClaim w mean mg mb 12 130 news
   (fun _ => (lb, listOf vb.toArray nb) ∈ news ∧ IntsAre vb B9 ∧ Inv ps B9 G ∧ (ps.length ≤ 4 ∧ ∀ p ∈ ps, p < 1024) ∧ W.toList = ap16 (portN cell) ∧ 0 ≤ cell ∧ cell < 100000000) [.ref lb, .bytes W tw, .int cell tc]
   (fun h₀ L m s Q _E => ∀ (D : Addr) (us : List Value) (h' : Heap) (tk' : Nat), Fr h₀ L h' m → News h₀ L h' ((D, listOf us.toArray 0) :: news) →
      IntsAre us (laidB B9 (portN cell)) → Inv (ps ++ [portN cell]) (laidB B9 (portN cell)) G → (laidB B9 (portN cell)).length = 13 → AllLt D news → Q (.ref D) { s with heap := h', toks := tk' }) := by
  intro dp un gd cn cs a ccd cl outer A₀ base h₀ L m s Q E B F X N T hk hx hd9 hu9 hret
  obtain ⟨hm, iB, inv, hps, hW, h0, h1⟩ := hx
  have lt := portN_lt cell
  have inv' := inv.lay (p := portN cell) (by omega)
  exact c_laid lb vb B9 nb W (portN cell) cell tw tc dp un gd cn cs a ccd cl outer A₀ base h₀ L m s Q E B F X (news_dup N hm) T hk ⟨iB, inv.lB, inv.all hps.1 hps.2, hW, by omega, h0, h1⟩ hd9 hu9
    fun D us h' tk' F' N' hI lt' => hret D us h' tk' F' (news_undup N') hI inv' inv'.lB lt'.2
theorem c_carry {w mean mg mb} {news : Ledger} {ps : List Nat} {B9 G9 : List Int} (lb lg : Addr) (vb vg : List Value) (nb ng : Nat) (k : Int) (sg : PySem.Str) (tk ts : Tok) :
  CClaim w mean mg mb 4 137 news
   (fun _ => (lb, listOf vb.toArray nb) ∈ news ∧ (lg, listOf vg.toArray ng) ∈ news ∧ IntsAre vb B9 ∧ IntsAre vg G9 ∧ Inv ps B9 G9 ∧ (ps.length ≤ 4 ∧ ∀ p ∈ ps, p < 1024) ∧ (0 ≤ k ∧ k < 12) ∧ SignOk sg) [.ref lb, .ref lg, .int k tk, .str sg ts]
   (fun h₀ L m s Q _E => ∀ (D lb' lg' : Addr) (vb' vg' : List Value) (h' : Heap) (tk' : Nat), Fr h₀ L h' m →
      News h₀ L h' ((D, { cls := .type "tuple", data := .seq #[.ref lb', .ref lg'] }) :: (lb', listOf vb'.toArray 0) :: (lg', listOf vg'.toArray 0) :: news) →
      IntsAre vb' (carryB B9 k) → IntsAre vg' (carryG B9 G9 k) → Inv ps (carryB B9 k) (carryG B9 G9 k) → AllLt lb' news → lb' < lg' → lg' < D → AllLt lg' news → AllLt D news → Q (.ref D) { s with heap := h', toks := tk' }) := by
  intro dp un gd cn cs a ccd cl outer A₀ base h₀ L m s Q E B F X N T hk hx hd9 hu9 hret
  obtain ⟨hm, hm2, iB, iG, inv, hps, hk2, hs⟩ := hx
  have hb := inv.bound hps.1 hps.2 k.toNat
  refine c_carried lb lg vb vg B9 G9 nb ng k sg tk ts dp un gd cn cs a ccd cl outer A₀ base h₀ L m s Q E B F X (news_dup2 N hm hm2) T hk ⟨iB, iG, inv.lB, inv.lG, hk2.1, hk2.2, hb.1, Int.le_trans hb.2 (by decide), hs⟩ hd9 hu9
    fun D lb' lg' vb' vg' h' tk' F' N' hI hJ lt' l2 l3 => hret D lb' lg' vb' vg' h' tk' F' (news_undup2 N') hI hJ (inv.carry hk2.1 hk2.2) lt'.2.2 l2 l3 ?_ ?_
  · exact allLt_of fun q hq => Nat.lt_trans (kst_ltOf lt'.2.2 q hq) l2
  · exact allLt_of fun q hq => Nat.lt_trans (Nat.lt_trans (kst_ltOf lt'.2.2 q hq) l2) l3
end Mine
end
section
open PySem PySem.W PySem.Spec PySem.Calls PyProof.Rows
set_option maxRecDepth 100000
namespace Mine
noncomputable def sgS (c : Int) : PySem.Str := Txt.item (PySem.Str.ofString "z.2 \n") (c.fmod 5)
theorem sign_ok (c : Int) : SignOk (sgS c) := by
  have h0 : 0 ≤ c.fmod 5 := Int.fmod_nonneg_of_pos _ (by decide)
  have h1 : c.fmod 5 < 5 := Int.fmod_lt_of_pos _ (by decide)
  have key : ∀ k : Nat, k < 5 → (Txt.item (PySem.Str.ofString "z.2 \n") (k : Int)).cps.toList = [122] ∨ (Txt.item (PySem.Str.ofString "z.2 \n") (k : Int)).cps.toList = [46] ∨ (Txt.item (PySem.Str.ofString "z.2 \n") (k : Int)).cps.toList = [50] ∨ (Txt.item (PySem.Str.ofString "z.2 \n") (k : Int)).cps.toList = [32] ∨ (Txt.item (PySem.Str.ofString "z.2 \n") (k : Int)).cps.toList = [10] := by decide +kernel
  have := key (c.fmod 5).toNat (by omega)
  rw [Int.toNat_of_nonneg h0] at this
  rcases this with h | h | h | h | h <;> exact ⟨_, h, by decide⟩
noncomputable abbrev PsOk (ps : List Nat) : Prop := ps.length ≤ 4 ∧ ∀ p ∈ ps, p < 1024
noncomputable abbrev CsOk (C : List Int) : Prop := ∀ c ∈ C, 0 ≤ c ∧ c < 100000000
theorem take_get {C : List Int} {i : Nat} {c : Int} (h : (List.take 4 C)[i]? = some c) : i < 4 ∧ C[i]? = some c := by
  rw [List.getElem?_take] at h
  split at h
  · exact ⟨by assumption, h⟩
  · cases h
/-- names the ledger's tail, for unification -/
noncomputable def FixIs (_ : Ledger) : Prop := True
section
variable {prog : Program} {w : World} {A : Around} {E : Value → Shared → Prop} {s : Shared} {h₀ : Heap} {m : Names} {env : Env} {x : PySem.Str} {px : Pos} {body : List Stmt} {Q : Flow → Shared → Prop}
  {X cK cB lb lg : Addr} {fix : Ledger} {sg : PySem.Str} {ts tt : Tok} {vb vg : List Value} {nb ng : Nat} {oK oB : Obj} {vk : Option Value} {B G : List Int} {ax : Addr} {vs : List Value} {C : List Int} {na : Nat}
theorem law_main (hE : PassesOwn (model prog w) A env E) (hh : A.handled = none) (F : Fr h₀ env.locals s.heap m)
    (N : News h₀ env.locals s.heap ((lb, listOf (List.toArray vb) nb) :: (lg, listOf (List.toArray vg) ng) :: (cK, oK) :: (cB, oB) :: fix))
    (hm : (ax, listOf (List.toArray vs) na) ∈ fix) (hI : IntsAre vs (List.take 4 C)) (hC : CsOk C) (hl : C.length = 5) (iB : IntsAre vb B) (iG : IntsAre vg G) (inv : Inv (portsOf C 0) B G) (dK : oK.data = Data.cell vk) (dB : oB.data = Data.cell (some (.ref lb)))
    (n1 : m (PySem.Str.ofString "given") = some (.ref lg)) (n2 : m (PySem.Str.ofString "sign") = some (.str sg ts)) (n3 : m (PySem.Str.ofString "total") = some (.int 0 tt)) (ap : Nat.succ cK < lb ∧ cB < lb ∧ Nat.succ cK < lg ∧ cB < lg)
    (turn : ∀ c (ps : List Nat) (t' : Tok) I it h tk (m₁ : Names) lb vb nb lg vg ng oK vk oB B G tt (J : Names → Ledger → Prop), (∀ m n, LawJ cK cK cB fix sg ts (ps ++ [portN c]) ((ps ++ [portN c]).sum : Nat) (fun _ => True) m n → J m n) →
      (0 ≤ c ∧ c < 100000000) → PsOk ps → PsOk (ps ++ [portN c]) → IntsAre vb B → IntsAre vg G → Inv ps B G → oK.data = Data.cell vk → oB.data = Data.cell (some (.ref lb)) →
      Fr h₀ env.locals h (fun y => if y = PySem.Str.ofString "given" then some (.ref lg) else if y = PySem.Str.ofString "sign" then some (.str sg ts) else if y = PySem.Str.ofString "total" then some (.int (ps.sum : Nat) tt) else m₁ y) →
      News h₀ env.locals h ((I, it) :: (lb, listOf (List.toArray vb) nb) :: (lg, listOf (List.toArray vg) ng) :: (cK, oK) :: (cB, oB) :: fix) →
      (Nat.succ cK < lb ∧ cB < lb ∧ Nat.succ cK < lg ∧ cB < lg) → (cK < I ∧ cB < I ∧ AllLt I fix) → ((@Ne Nat lb I) ∧ (@Ne Nat lg I)) → FixIs ((I, it) :: fix) →
      wpAny (model prog w) A (storeName env x (.int c t')) (fun _ s₂ => wpAny (model prog w) A (execs body env) (TurnEnd h₀ env.locals s I it J) E s₂) E { s with heap := h, toks := tk })
    (fin : ∀ h tk (m₁ : Names) lb vb nb lg vg ng oK vk oB B G tt, IntsAre vb B → IntsAre vg G → PsOk (portsOf C 4) → Inv (portsOf C 4) B G → oK.data = Data.cell vk → oB.data = Data.cell (some (.ref lb)) →
      Fr h₀ env.locals h (fun y => if y = PySem.Str.ofString "given" then some (.ref lg) else if y = PySem.Str.ofString "sign" then some (.str sg ts) else if y = PySem.Str.ofString "total" then some (.int ((portsOf C 4).sum : Nat) tt) else m₁ y) →
      News h₀ env.locals h ((lb, listOf (List.toArray vb) nb) :: (lg, listOf (List.toArray vg) ng) :: (cK, oK) :: (cB, oB) :: fix) →
      (Nat.succ cK < lb ∧ cB < lb ∧ Nat.succ cK < lg ∧ cB < lg) → FixIs fix → Q .next { s with heap := h, toks := tk }) : ForAt prog w A env x px body Q E (.ref ax) s := by
  refine law_for (ks := List.take 4 C) (portsOf C) (fun i => ((portsOf C i).sum : Nat)) (fun _ _ => True) hE hh F N hm hI ⟨iB, iG, inv, trivial, dK, dB, n1, n2, n3, ap.1, ap.2.1, ap.2.2.1, ap.2.2.2, Nat.ne_of_gt (Nat.lt_of_succ_lt ap.1), Nat.ne_of_gt (Nat.lt_of_succ_lt ap.2.2.1)⟩ ?_ ?_
  · intro i c t' I it h tk m₁ lb vb nb lg vg ng oK vk oB B G tt hc iB iG inv _ dK dB F N a1 a2 a3
    obtain ⟨hi, hc⟩ := take_get hc
    have e := ports_succ hc
    have p1 : PsOk (portsOf C i) := ⟨by have := ports_len (C := C) (i := i); omega, ports_lt⟩
    have p2 : PsOk (portsOf C i ++ [portN c]) := by rw [← e]; exact ⟨by have := ports_len (C := C) (i := i + 1); omega, ports_lt⟩
    refine turn c (portsOf C i) t' I it h tk m₁ lb vb nb lg vg ng oK vk oB B G tt _ (fun m n hJ => ?_) (hC c (List.mem_of_getElem? hc)) p1 p2 iB iG inv dK dB F N ⟨a1.1, a1.2.1, a1.2.2.1, a1.2.2.2.1⟩ a2 a3 trivial
    rw [e]; exact hJ
  · intro h tk m₁ lb vb nb lg vg ng oK vk oB B G tt iB iG inv _ dK dB F N a1
    have e : (List.take 4 C).length = 4 := by rw [List.length_take, hl]; rfl
    rw [e] at inv F
    exact fin h tk m₁ lb vb nb lg vg ng oK vk oB B G tt iB iG ⟨ports_len, ports_lt⟩ inv dK dB F N ⟨a1.1, a1.2.1, a1.2.2.1, a1.2.2.2.1⟩ trivial
/-- a loop that carries boxes -/
theorem law_carry {ks : List Int} {ps : List Nat} {tot : Int} (R : Nat → List Int → Prop) (hR : ∀ i k B, ks[i]? = some k → B.length = 13 → R i B → R (i + 1) (carryB B k)) (hE : PassesOwn (model prog w) A env E) (hh : A.handled = none) (F : Fr h₀ env.locals s.heap m)
    (N : News h₀ env.locals s.heap ((lb, listOf (List.toArray vb) nb) :: (lg, listOf (List.toArray vg) ng) :: (cK, oK) :: (cB, oB) :: fix))
    (hm : (ax, listOf (List.toArray vs) na) ∈ fix) (hI : IntsAre vs ks) (hk : ∀ k ∈ ks, 0 ≤ k ∧ k < 12) (iB : IntsAre vb B) (iG : IntsAre vg G) (inv : Inv ps B G) (h0 : R 0 B) (dK : oK.data = Data.cell vk) (dB : oB.data = Data.cell (some (.ref lb)))
    (n1 : m (PySem.Str.ofString "given") = some (.ref lg)) (n2 : m (PySem.Str.ofString "sign") = some (.str sg ts)) (n3 : m (PySem.Str.ofString "total") = some (.int tot tt)) (ap : (Nat.succ cK < lb ∧ cB < lb ∧ Nat.succ cK < lg ∧ cB < lg ∧ (@Ne Nat lb X) ∧ (@Ne Nat lg X)))
    (turn : ∀ k (t' : Tok) I it h tk (m₁ : Names) lb vb nb lg vg ng oK vk oB B G tt (J : Names → Ledger → Prop) (P : List Int → Prop), (∀ m n, LawJ X cK cB fix sg ts ps tot P m n → J m n) → P (carryB B k) →
      (0 ≤ k ∧ k < 12) → IntsAre vb B → IntsAre vg G → Inv ps B G → oK.data = Data.cell vk → oB.data = Data.cell (some (.ref lb)) →
      Fr h₀ env.locals h (fun y => if y = PySem.Str.ofString "given" then some (.ref lg) else if y = PySem.Str.ofString "sign" then some (.str sg ts) else if y = PySem.Str.ofString "total" then some (.int tot tt) else m₁ y) →
      News h₀ env.locals h ((I, it) :: (lb, listOf (List.toArray vb) nb) :: (lg, listOf (List.toArray vg) ng) :: (cK, oK) :: (cB, oB) :: fix) →
      (Nat.succ cK < lb ∧ cB < lb ∧ Nat.succ cK < lg ∧ cB < lg ∧ (@Ne Nat lb X) ∧ (@Ne Nat lg X)) → (cK < I ∧ cB < I ∧ AllLt I fix) → ((@Ne Nat lb I) ∧ (@Ne Nat lg I)) →
      wpAny (model prog w) A (storeName env x (.int k t')) (fun _ s₂ => wpAny (model prog w) A (execs body env) (TurnEnd h₀ env.locals s I it J) E s₂) E { s with heap := h, toks := tk })
    (fin : ∀ h tk (m₁ : Names) lb vb nb lg vg ng oK vk oB B G tt, IntsAre vb B → IntsAre vg G → Inv ps B G → R ks.length B → oK.data = Data.cell vk → oB.data = Data.cell (some (.ref lb)) →
      Fr h₀ env.locals h (fun y => if y = PySem.Str.ofString "given" then some (.ref lg) else if y = PySem.Str.ofString "sign" then some (.str sg ts) else if y = PySem.Str.ofString "total" then some (.int tot tt) else m₁ y) →
      News h₀ env.locals h ((lb, listOf (List.toArray vb) nb) :: (lg, listOf (List.toArray vg) ng) :: (cK, oK) :: (cB, oB) :: fix) →
      (Nat.succ cK < lb ∧ cB < lb ∧ Nat.succ cK < lg ∧ cB < lg ∧ (@Ne Nat lb X) ∧ (@Ne Nat lg X)) → Q .next { s with heap := h, toks := tk }) : ForAt prog w A env x px body Q E (.ref ax) s := by
  refine law_for (ks := ks) (fun _ => ps) (fun _ => tot) R hE hh F N hm hI ⟨iB, iG, inv, h0, dK, dB, n1, n2, n3, ap⟩ ?_ ?_
  · intro i c t' I it h tk m₁ lb vb nb lg vg ng oK vk oB B G tt hc iB iG inv hP dK dB F N a1 a2 a3
    exact turn c t' I it h tk m₁ lb vb nb lg vg ng oK vk oB B G tt _ (R (i + 1)) (fun m n hJ => hJ) (hR i c B hc inv.lB hP) (hk c (List.mem_of_getElem? hc)) iB iG inv dK dB F N a1 a2 a3
  · intro h tk m₁ lb vb nb lg vg ng oK vk oB B G tt iB iG inv hP dK dB F N a1
    exact fin h tk m₁ lb vb nb lg vg ng oK vk oB B G tt iB iG inv hP dK dB F N a1
theorem law_carry2 {fix1 news : Ledger} {ks : List Int} {ps : List Nat} {tot : Int} (FX : FixIs fix1) (R : Nat → List Int → Prop) (hR : ∀ i k B, ks[i]? = some k → B.length = 13 → R i B → R (i + 1) (carryB B k)) (hE : PassesOwn (model prog w) A env E) (hh : A.handled = none) (F : Fr h₀ env.locals s.heap m)
    (N : News h₀ env.locals s.heap news) (m1 : (lb, listOf (List.toArray vb) nb) ∈ news) (m2 : (lg, listOf (List.toArray vg) ng) ∈ news) (m3 : (cK, oK) ∈ news) (m4 : (cB, oB) ∈ news) (m5 : (ax, listOf (List.toArray vs) na) ∈ news) (mf : ∀ q ∈ fix1, q ∈ news)
    (hI : IntsAre vs ks) (hk : ∀ k ∈ ks, 0 ≤ k ∧ k < 12) (iB : IntsAre vb B) (iG : IntsAre vg G) (inv : Inv ps B G) (h0 : R 0 B) (dK : oK.data = Data.cell vk) (dB : oB.data = Data.cell (some (.ref lb)))
    (n1 : m (PySem.Str.ofString "given") = some (.ref lg)) (n2 : m (PySem.Str.ofString "sign") = some (.str sg ts)) (n3 : m (PySem.Str.ofString "total") = some (.int tot tt)) (ap : (Nat.succ cK < lb ∧ cB < lb ∧ Nat.succ cK < lg ∧ cB < lg ∧ (@Ne Nat lb X) ∧ (@Ne Nat lg X)))
    (turn : ∀ k (t' : Tok) I it h tk (m₁ : Names) lb vb nb lg vg ng oK vk oB B G tt (J : Names → Ledger → Prop) (P : List Int → Prop), (∀ m n, LawJ X cK cB ((ax, listOf (List.toArray vs) na) :: fix1) sg ts ps tot P m n → J m n) → P (carryB B k) →
      (0 ≤ k ∧ k < 12) → IntsAre vb B → IntsAre vg G → Inv ps B G → oK.data = Data.cell vk → oB.data = Data.cell (some (.ref lb)) →
      Fr h₀ env.locals h (fun y => if y = PySem.Str.ofString "given" then some (.ref lg) else if y = PySem.Str.ofString "sign" then some (.str sg ts) else if y = PySem.Str.ofString "total" then some (.int tot tt) else m₁ y) →
      News h₀ env.locals h ((I, it) :: (lb, listOf (List.toArray vb) nb) :: (lg, listOf (List.toArray vg) ng) :: (cK, oK) :: (cB, oB) :: (ax, listOf (List.toArray vs) na) :: fix1) →
      (Nat.succ cK < lb ∧ cB < lb ∧ Nat.succ cK < lg ∧ cB < lg ∧ (@Ne Nat lb X) ∧ (@Ne Nat lg X)) → (cK < I ∧ cB < I ∧ AllLt I ((ax, listOf (List.toArray vs) na) :: fix1)) → ((@Ne Nat lb I) ∧ (@Ne Nat lg I)) →
      wpAny (model prog w) A (storeName env x (.int k t')) (fun _ s₂ => wpAny (model prog w) A (execs body env) (TurnEnd h₀ env.locals s I it J) E s₂) E { s with heap := h, toks := tk })
    (fin : ∀ h tk (m₁ : Names) lb vb nb lg vg ng oK vk oB B G tt, IntsAre vb B → IntsAre vg G → Inv ps B G → R ks.length B → oK.data = Data.cell vk → oB.data = Data.cell (some (.ref lb)) →
      Fr h₀ env.locals h (fun y => if y = PySem.Str.ofString "given" then some (.ref lg) else if y = PySem.Str.ofString "sign" then some (.str sg ts) else if y = PySem.Str.ofString "total" then some (.int tot tt) else m₁ y) →
      News h₀ env.locals h ((lb, listOf (List.toArray vb) nb) :: (lg, listOf (List.toArray vg) ng) :: (cK, oK) :: (cB, oB) :: (ax, listOf (List.toArray vs) na) :: fix1) →
      (Nat.succ cK < lb ∧ cB < lb ∧ Nat.succ cK < lg ∧ cB < lg ∧ (@Ne Nat lb X) ∧ (@Ne Nat lg X)) → FixIs fix1 → Q .next { s with heap := h, toks := tk }) : ForAt prog w A env x px body Q E (.ref ax) s := by
  refine law_carry (nb := nb) (ng := ng) (fix := (ax, listOf (List.toArray vs) na) :: fix1) R hR hE hh F (fun (q : Addr × Obj) hq => N q ?_) (.head _) hI hk iB iG inv h0 dK dB n1 n2 n3 ap turn fun h tk m₁ lb vb nb lg vg ng oK vk oB B G tt iB iG inv hP dK dB F N a1 => fin h tk m₁ lb vb nb lg vg ng oK vk oB B G tt iB iG inv hP dK dB F N a1 FX
  rcases List.mem_cons.mp hq with rfl | hq
  · exact m1
  rcases List.mem_cons.mp hq with rfl | hq
  · exact m2
  rcases List.mem_cons.mp hq with rfl | hq
  · exact m3
  rcases List.mem_cons.mp hq with rfl | hq
  · exact m4
  rcases List.mem_cons.mp hq with rfl | hq
  · exact m5
  · exact mf q hq
theorem law_turn {h' : Heap} {L : Addr} {m' : Names} {all : Ledger} {I : Addr} {it : Obj} {tk : Nat} {ps : List Nat} {tot : Int} {P : List Int → Prop} {J : Names → Ledger → Prop} (hJ : ∀ m n, LawJ X cK cB fix sg ts ps tot P m n → J m n) (F : Fr h₀ L h' m') (N : News h₀ L h' all)
    (sub : ∀ q ∈ (I, it) :: (lb, listOf (List.toArray vb) nb) :: (lg, listOf (List.toArray vg) ng) :: (cK, oK) :: (cB, oB) :: fix, q ∈ all) (lt : cK < I ∧ cB < I ∧ AllLt I fix) (l2 : (@Ne Nat lb I) ∧ (@Ne Nat lg I))
    (S : LawF X cK cB sg ts ps tot P lb vb lg vg oK vk oB B G tt m') : TurnEnd h₀ L s I it J .next { s with heap := h', toks := tk } := by
  obtain ⟨e, h1, tk1, m1, n1, e1, F1, N1, o1, j1⟩ := law_end (s := s) (tk := tk) F N sub lt l2 S
  exact ⟨e, h1, tk1, m1, n1, e1, F1, N1, o1, hJ _ _ j1⟩
end
theorem reply_pre {c : Int} (h : 0 ≤ c ∧ c < 100000000) : 0 ≤ c ∧ c < 100000000 ∧ (0 : Int) ≤ 0 ∧ (0 : Int) < 10 := ⟨h.1, h.2, by decide, by decide⟩
theorem lay_pre {P1 P2 P3 P4 P5 : Prop} {c : Int} (h1 : P1) (h2 : P2) (h3 : P3) (h4 : P4) (h5 : P5) (h : 0 ≤ c ∧ c < 100000000) : P1 ∧ P2 ∧ P3 ∧ P4 ∧ P5 ∧ 0 ≤ c ∧ c < 100000000 := ⟨h1, h2, h3, h4, h5, h.1, h.2⟩
theorem apN {a b c d e f : Nat} (h : a < b ∧ c < d ∧ a < e ∧ c < f) : (@LT.lt Nat _ a b) ∧ (@LT.lt Nat _ c d) ∧ (@LT.lt Nat _ a e) ∧ (@LT.lt Nat _ c f) := h
theorem apI {cK cB I : Nat} {fix : Ledger} (h : cK < I ∧ cB < I ∧ AllLt I fix) : (@LT.lt Nat _ cK I) ∧ (@LT.lt Nat _ cB I) ∧ AllLt I fix := h
theorem apN6 {a b c d X : Nat} (h : a < b ∧ c < b ∧ a < d ∧ c < d ∧ (@Ne Nat b X) ∧ (@Ne Nat d X)) : (@LT.lt Nat _ a b) ∧ (@LT.lt Nat _ c b) ∧ (@LT.lt Nat _ a d) ∧ (@LT.lt Nat _ c d) ∧ (@Ne Nat b X) ∧ (@Ne Nat d X) := h
theorem two_mods {a b : Int} : ∀ k ∈ [a.fmod 12, b.fmod 12], 0 ≤ k ∧ k < 12 := by
  intro k hk
  simp only [List.mem_cons, List.not_mem_nil, or_false] at hk
  rcases hk with rfl | rfl <;> exact ⟨fm_nn (by decide), fm_lt (by decide) (by decide)⟩
theorem tot_eq {ps : List Nat} {c : Int} : (ps.sum : Int) + c.fmod 1024 = (((ps ++ [portN c]).sum : Nat) : Int) := by
  rw [List.sum_append]
  simp only [List.sum_cons, List.sum_nil]
  push_cast
  rw [portN_eq]; omega
noncomputable def Mod12 (v : Value) : Prop := ∃ n t, v = .int n t ∧ 0 ≤ n ∧ n < 12
theorem mod12_ok {a : Int} {t : Tok} : Mod12 (.int (a.fmod 12) t) := ⟨_, _, rfl, fm_nn (by decide), fm_lt (by decide) (by decide)⟩
theorem mod12_ints {ys : List Value} (h : ∀ (i : Nat) y, ys[i]? = some y → Mod12 y) : ∃ K, IntsAre ys K ∧ ∀ k ∈ K, 0 ≤ k ∧ k < 12 := by
  induction ys with
  | nil => exact ⟨[], .nil, fun c hc => nomatch hc⟩
  | cons v r ih =>
    obtain ⟨n, t, rfl, h0, h1⟩ := h 0 v rfl
    obtain ⟨K, hK, hb⟩ := ih fun i y hy => h (i + 1) y (by simpa using hy)
    exact ⟨n :: K, .cons n t hK, fun c hc => by
      rcases List.mem_cons.mp hc with rfl | hc
      · exact ⟨h0, h1⟩
      · exact hb c hc⟩
theorem bits_small {n : Nat} (h : n < 12) : Builtin.Int.intBits (n : Int) ≤ 64 := by
  have key : ∀ n : Nat, n < 12 → Builtin.Int.intBits (n : Int) ≤ 64 := by decide +kernel
  exact key n h
theorem step_mul {a k : Int} (h : Idx k 12) : IntMulOk a k := by
  refine IntMulOk.of_right ?_
  obtain ⟨n, rfl⟩ : ∃ n : Nat, k = (n : Int) := ⟨k.toNat, by have := h.1; omega⟩
  have := h.2
  exact bits_small (by omega)
theorem range12_mem {k : Int} (h : k ∈ rangeKs 0 12) : 0 ≤ k ∧ k < 12 := by
  have e : rangeKs 0 12 = [0, 1, 2, 3, 4, 5, 6, 7, 8, 9, 10, 11] := by decide
  rw [e] at h
  simp only [List.mem_cons, List.not_mem_nil, or_false] at h
  omega
theorem sweep_mem {K : List Int} (h : ∀ k ∈ K, 0 ≤ k ∧ k < 12) : ∀ k ∈ K ++ rangeKs 0 12, 0 ≤ k ∧ k < 12 := by
  intro k hk
  rcases List.mem_append.mp hk with hk | hk
  · exact h k hk
  · exact range12_mem hk
theorem sweep_low {K : List Int} (hl : K.length = 12) : ∀ i k B, (K ++ rangeKs 0 12)[i]? = some k → B.length = 13 → LowB B (i - 12) → LowB (carryB B k) (i + 1 - 12) := by
  intro i k B hk hB h
  by_cases hi : i < 12
  · have e : i + 1 - 12 = 0 := by omega
    rw [e]; intro j hj; exact absurd hj (Nat.not_lt_zero _)
  · rw [List.getElem?_append_right (by omega), hl] at hk
    have hlt : i - 12 < 12 := by
      have h1 : i - 12 < (rangeKs 0 12).length := (List.getElem?_eq_some_iff.mp hk).1
      have e : (rangeKs 0 12).length = 12 := by decide
      omega
    have key : ∀ j : Nat, j < 12 → (rangeKs 0 12)[j]? = some (j : Int) := by decide
    rw [key _ hlt] at hk
    have e : k = ((i - 12 : Nat) : Int) := (Option.some.inj hk).symm
    have e2 : i + 1 - 12 = (i - 12) + 1 := by omega
    rw [e, e2]
    exact h.carry hB hlt
theorem sweep_len {K : List Int} (hl : K.length = 12) : (K ++ rangeKs 0 12).length - 12 = 12 := by
  have e : (rangeKs 0 12).length = 12 := by decide
  rw [List.length_append, hl, e]
theorem sweep_size {K : List Int} (hl : K.length = 12) : K.length + (rangeKs 0 12).length ≤ sizeLine := by
  have e : (rangeKs 0 12).length = 12 := by decide
  rw [hl, e, sizeLine_eq]; decide
section
variable {prog : Program} {w : World} {A : Around} {E : Value → Shared → Prop} {s : Shared} {h₀ : Heap} {L r a b : Addr} {m : Names} {news : Ledger} {Q : Value → Shared → Prop} {t u v : Tok}
theorem law_mul {x k : Int} (h : Idx k 12) (hq : ∀ t' k', Q (.int (x * k) t') { s with toks := k' }) : wpAny (model prog w) A (binaryOp .Mult (.int x t) (.int k u)) Q E s := mul_int (hq _ _) (step_mul h)
theorem law_range (hh : A.handled = none) (F : Fr h₀ L s.heap m) (N : News h₀ L s.heap news) (hr : IsRange s.heap r 0 12 1 t u v)
    (h : ∀ D us c h' tk, Fr h₀ L h' m → News h₀ L h' ((D, listOf (List.toArray us) c) :: news) → (∀ p ∈ news, p.1 < D) → IntsAre us (rangeKs 0 12) → Q (.ref D) { s with heap := h', toks := tk }) :
    wpAny (model prog w) A (call (.type "list") [.ref r]) Q E s := kll_range hh F N hr (by decide) (by decide) (by decide) h
theorem law_add {vs ws : List Value} {n n2 : Nat} {K : List Int} (F : Fr h₀ L s.heap m) (N : News h₀ L s.heap news) (ha : (a, listOf (List.toArray vs) n) ∈ news) (hb : (b, listOf (List.toArray ws) n2) ∈ news) (hi : IntsAre vs K) (hj : IntsAre ws (rangeKs 0 12)) (hl : K.length = 12)
    (h : ∀ D us h', Fr h₀ L h' m → News h₀ L h' ((D, listOf (List.toArray us) 0) :: news) → (∀ p ∈ news, p.1 < D) → IntsAre us (K ++ rangeKs 0 12) → Q (.ref D) { s with heap := h' }) : wpAny (model prog w) A (binaryOp .Add (.ref a) (.ref b)) Q E s :=
  kmk_add_ints F N (News.isList N ha) (News.isList N hb) hi hj h (sweep_size hl)
end
theorem fx_pick {p0 p6 q1 q4 : Addr × Obj} (_ : FixIs [p0, p6, q1, q4]) : FixIs [p6, q4] := trivial
theorem low_start {B : List Int} : LowB B (0 - 12) := fun j hj => absurd hj (Nat.not_lt_zero _)
theorem apK {lb lg cK cB : Nat} (h : Nat.succ cK < lb ∧ cB < lb ∧ Nat.succ cK < lg ∧ cB < lg) : Nat.succ cK < lb ∧ cB < lb ∧ Nat.succ cK < lg ∧ cB < lg ∧ (@Ne Nat lb cK) ∧ (@Ne Nat lg cK) :=
  ⟨h.1, h.2.1, h.2.2.1, h.2.2.2, Nat.ne_of_gt (Nat.lt_of_succ_lt h.1), Nat.ne_of_gt (Nat.lt_of_succ_lt h.2.2.1)⟩
end Mine
end
section
open PySem PySem.W PySem.Spec PySem.Calls PySem.NumText PyProof.Rows
set_option maxRecDepth 100000
set_option maxHeartbeats 0
set_option pp.deepTerms.threshold 6
set_option pp.proofs.threshold 3
namespace Mine
/-- a call from the law's own frame, under the caller -/
noncomputable abbrev CClaimL (w : World) (mean : ExcName → Option Value) (mg mb : Names) (k : Nat) (f : Addr) (news : Ledger) (pre : Heap → Prop) (vs : List Value) (ret : Heap → Addr → Names → Shared → Post → Post → Prop) : Prop :=
  ∀ (dp un : Nat) (gd : Option (List Code)) (cn : PySem.Str) (cs : Scope) (a : Addr) (ccd : Value) (cl : List (PySem.Str × Addr)) (A₀ : Around) (h₀ : Heap) (L : Addr) (m : Names) (s : Shared) (Q E : Post),
    Below A₀ h₀ [] h₀ → Fr h₀ L s.heap m → (hd.heap_39 w.params).In h₀ → News h₀ L s.heap news → Top hd.view_39 lz mean mg mb h₀ → cs.kind = .function → pre h₀ →
    dp + k < recursionLimit → un + 8 * k < cLine → ret h₀ L m s Q E →
      wpC (model PySem.Challenge.rw_xc0006_01.row.prog w) (ktrTop dp un gd cn cs L a ccd cl []) (call (.ref f) vs) Q E s
theorem c_refused_bad {w mean mg mb} {news : Ledger} (x : PySem.Str) (tk : Tok) : CClaimL w mean mg mb 4 125 news (fun _ => Pre229 x ∧ Bad229 x) [.str x tk]
   (fun h₀ L m s Q _ => ∀ (t : Tok) (h' : Heap) (tk' : Nat), Fr h₀ L h' m → News h₀ L h' news → Q (.int 3 t) { s with heap := h', toks := tk' }) := by
  unfold CClaimL
  k_fill
  w_top off
  k_with_none
  intro dp un gd cn cs a ccd cl A₀ h₀ L m s Q E B F X N T hk hx hd9 hu9 hret
  obtain ⟨hpre, hbad⟩ := hx
  refine c_call ?_
  k_dflt (refine' code_defPS ?k1 ?k2 ?k3 ?k4 ?k5 ?kA ?kF ?kK ?k6 ?k7 ?k8 ?k9 ?kB ?_ ?c2 ?c3 ?c4 ?c5; (case kA => exact rfl); (case kF => exact rfl); (case kK => assumption); (case k1 => k_asm); (case k2 => k_asm); (case k3 => k_asm); (case k4 => k_asm); (case k5 => k_asm); (case k6 => k_is); (case k7 => k_is); (case k8 => ktr_room); (case k9 => exact BindsTo.of_eq rfl); (case c5 => decide); (case kB => exact locs rfl); (case c2 => exact rfl); (case c3 => exact rfl); (case c4 => exact rfl))
  intro g' L' h' FG' F' N' B' X' T' D'
  (try dsimp only)
  refine c_execs_cons (c_Try ?_)
  refine c_execs_cons (c_Expr (c_Call_Name ?_))
  k_steps
  refine c_callK (K := hd.heap_39 w.params) (by k_is) ?_
  k_steps
  k_dflt (refine' c_parse229_bad _ _ _ _ _ _ _ _ _ _ _ _ _ _ _ _ _ _ _ _ _ _ _ _ ?k1 ?k2 ?k3 ?k4 ?k5 ?kK ?kp ?kd ?ku ?kR)
  (case k1 => k_asm); (case k2 => k_asm); (case k3 => k_asm); (case k4 => k_asm); (case k5 => k_asm); (case kK => first | exact rfl | assumption); (case kp => exact ⟨hpre, hbad⟩); (case kd => ktr_room); (case ku => ktr_units)
  intro e9 g9 h9 tk9 F9 U9 R9
  (try dsimp only)
  k_steps
  refine hret _ _ _ ?fF ?fN
  case fF => k_asm
  case fN => first | k_asm | (refine' cb_drop ?cbN ?cbS; (case cbN => assumption); (case cbS => kcj_all))
end Mine
end
section
open PySem PySem.W PySem.Calls PyProof.Rows
open PySem.Builtin.BaseException (bexcArgs)
set_option maxRecDepth 100000
namespace Mine
section
variable {prog : Program} {w : World} {A : Around} {E : Value → Shared → Prop} {s : Shared} {K : Frag} {e t0 C : Addr} {oe : Obj} {ws : Array Value} {x : PySem.Str} {tk : Tok}

theorem looks_cls {M : Model} (he : s.heap.get? e = some oe) (hc : oe.cls = .ref C) : Looks M s.heap (typeOf (.ref e)) (.ref C) := by
  rw [← hc]; exact (Looks.ld he).andThen .now

theorem own_bexcArgs {M : Model} {Q : Value × List Value → Shared → Prop} (he : s.heap.get? e = some oe) (hd : oe.data = .fields ws) (h0 : ws[0]? = some (.ref t0)) (ht : s.heap.TupAt t0 [.str x tk]) (hq : Q (.ref t0, [.str x tk]) s) :
    wpAny M A (bexcArgs (.ref e)) Q E s := by
  obtain ⟨ot, k, hto, _, htd⟩ := ht
  unfold bexcArgs
  refine wpAny_bind (wpAny_field he hd h0 (wpAny_bind (wpAny_seqItems hto htd ?_)))
  exact wpAny_pure hq

theorem own_str_entry {Q : Fin → Shared → Prop} (he : s.heap.get? e = some oe) (hd : oe.data = .fields ws) (h0 : ws[0]? = some (.ref t0)) (ht : s.heap.TupAt t0 [.str x tk]) (hq : Q (.done (.ret (.str x tk))) s) :
    wpAny (model prog w) A (Builtin.«BaseException.__str__» ⟨[.ref e], []⟩) Q E s := by
  unfold Builtin.«BaseException.__str__»
  repeat (first | with_reducible refine own_bexcArgs he hd h0 ht ?_ | wp_step)
  exact hq

theorem own_str_check {M : Model} {Q : Unit → Shared → Prop} (X : K.In s.heap) (he : s.heap.get? e = some oe) (hc : oe.cls = .ref C) (hb : subIn K (.ref C) (.type "BaseException") = some true) (hq : Q () s) :
    wpAny M A (checkBuiltinCall "BaseException.__str__" ⟨[.ref e], []⟩) Q E s := by
  have hk : builtinKind "BaseException.__str__" = some .slot := by decide +kernel
  have hsp : splitId "BaseException.__str__" = some ("BaseException", "__str__") := by decide +kernel
  have ha := F.args_bexc_str (.ref e)
  simp only [checkBuiltinCall, hk, hsp]
  refine wpAny_bind ?_
  unfold isInstance
  refine wpAny_bind ((looks_cls he hc).here ((looks_subIn X hb).here ?_))
  simp only [Bool.not_true, Bool.false_eq_true, if_false]
  cases hsig : Manifest.signature? "BaseException.__str__" with
  | none => exact wpAny_pure hq
  | some sig =>
    simp only [argsOk, hsig] at ha
    have h2 : Bind.checkArgs "BaseException.__str__" sig ⟨[.ref e], []⟩ = pure () := ha
    show wpAny M A (Bind.checkArgs "BaseException.__str__" sig ⟨[.ref e], []⟩) Q E s
    rw [h2]; exact wpAny_pure hq

theorem own_strOf {Q : Value → Shared → Prop} (X : K.In s.heap) (hl : findIn K (.ref C) "__str__" = some (some (.builtin "BaseException.__str__"))) (hb : subIn K (.ref C) (.type "BaseException") = some true)
    (he : s.heap.get? e = some oe) (hc : oe.cls = .ref C) (hd : oe.data = .fields ws) (h0 : ws[0]? = some (.ref t0)) (ht : s.heap.TupAt t0 [.str x tk]) (hu : A.units < cLine) (hq : Q (.str x tk) s) :
    wpAny (model prog w) A (Builtin.Str.strOf (.ref e)) Q E s := by
  have hsp : wpAny (model prog w) A (callSpecial? (.ref e) "__str__") (fun r s' => r = some (.str x tk) ∧ s' = s) E s := by
    simp only [callSpecial?]
    unfold specialOf
    refine wpAny_bind (wpAny_bind ((looks_cls he hc).here ((looks_findIn X hl).here ?_)))
    simp only [PySem.F.excStr_ValueError.str.bind]
    refine wpAny_holding (wpAny_bind (wpAny_pure (wpAny_bind ?_)))
    refine wpAny_call (codeAny_call_builtin PySem.F.excStr_ValueError.str.plain F.entry_bexc_str (own_str_check X he hc hb (own_str_entry he hd h0 ht ?_)))
    exact wpAny_pure ⟨rfl, rfl⟩
  unfold Builtin.Str.strOf
  repeat (first | with_reducible refine wpAny_cRoomFor hu ?_ | (with_reducible refine wpAny_mono hsp (fun r s' hr => ?_) (fun _ _ z => z); obtain ⟨rfl, rfl⟩ := hr) | wp_step)
  all_goals exact hq

theorem str_own {Q : Value → Shared → Prop} (X : K.In s.heap) (hl : findIn K (.ref C) "__str__" = some (some (.builtin "BaseException.__str__"))) (hb : subIn K (.ref C) (.type "BaseException") = some true)
    (he : s.heap.get? e = some oe) (hc : oe.cls = .ref C) (hd : oe.data = .fields ws) (h0 : ws[0]? = some (.ref t0)) (ht : s.heap.TupAt t0 [.str x tk]) (hu : A.units + 2 < cLine) (h : Q (.str x tk) s) :
    wpAny (model prog w) A (call (.type "str") [.ref e]) Q E s :=
  callType_new PySem.F.called_str (by decide) (PySem.F.typeCall_str_1 _) (PySem.F.newCall_str_1 _) (fun obj => PySem.F.args_object_init_2 obj _) PySem.F.entry_str_new
    (meets_str_new (S := fun A' R s' => A'.units + 1 < cLine ∧ s' = s ∧ R (.ok (.ret (.str x tk))) s')
      fun _ _ A' _ s' hq => by
        obtain ⟨h1, rfl, h3⟩ := hq
        exact own_strOf (A := A'.in1) X hl hb he hc hd h0 ht h1 h3)
    ⟨(show A.units + 1 + 1 < cLine from hu), rfl, typeIs_str _ _ _, h⟩

theorem str_got {h₀ : Heap} {L : Addr} {m : PySem.Str → Option Value} {news : List (Addr × Obj)} {Q : Value → Shared → Prop} (G : Got news e t0 (.ref C) [.str x tk]) (N : News h₀ L s.heap news) (F : Fr h₀ L s.heap m) (X : K.In h₀)
    (hl : findIn K (.ref C) "__str__" = some (some (.builtin "BaseException.__str__"))) (hb : subIn K (.ref C) (.type "BaseException") = some true) (hu : A.units + 2 < cLine) (h : Q (.str x tk) s) :
    wpAny (model prog w) A (call (.type "str") [.ref e]) Q E s := by
  obtain ⟨oe, ot, ws, nt, m1, m2, hc, hd, h0, tc, td⟩ := G
  exact str_own (X.keeps F.keep) hl hb (N _ m1).1 hc hd h0 ⟨ot, nt, (N _ m2).1, tc, td⟩ hu h
end
end Mine
end
section
open PySem PySem.W PySem.Spec PySem.Calls PySem.NumText PyProof.Rows
set_option maxRecDepth 100000
set_option maxHeartbeats 0
set_option pp.deepTerms.threshold 6
set_option pp.proofs.threshold 3
namespace Mine
theorem self_ne {x : PySem.Str} {P : Prop} (h : (x == x) = false) : P := by rw [beq_self_eq_true] at h; cases h
theorem num_vac {x : PySem.Str} (h : (out229 x).1 ≠ 3) : Num229 x 0 := fun v e => absurd (by rw [e]) h
theorem c_refused_1 {w mean mg mb} {news : Ledger} (x : PySem.Str) (tk : Tok) : CClaimL w mean mg mb 4 125 news (fun _ => Pre229 x ∧ (out229 x).1 = 1) [.str x tk]
   (fun h₀ L m s Q _ => ∀ (t : Tok) (h' : Heap) (tk' : Nat), Fr h₀ L h' m → News h₀ L h' news → Q (.int 1 t) { s with heap := h', toks := tk' }) := by
  unfold CClaimL
  k_fill
  w_top off
  k_with_none
  k_with "call type:str" => (k_here; (with_reducible show wpAny _ _ (call (Value.type "str") [Value.ref _]) _ _ _); k_dflt (refine' str_got ?Gw0 ?Nw0 ?Fw0 ?Xw0 ?lw0 ?bw0 ?uw0 ?_; (case Gw0 => with_reducible assumption); (case Nw0 => with_reducible assumption); (case Fw0 => with_reducible assumption); (case Xw0 => k_asm); (case lw0 => k_is); (case bw0 => k_is); (case uw0 => ktr_units)))
  intro dp un gd cn cs a ccd cl A₀ h₀ L m s Q E B F X N T hk hx hd9 hu9 hret
  obtain ⟨hpre, ho⟩ := hx
  have hne : (out229 x).1 ≠ 3 := by rw [ho]; decide
  refine c_call ?_
  k_dflt (refine' code_defPS ?k1 ?k2 ?k3 ?k4 ?k5 ?kA ?kF ?kK ?k6 ?k7 ?k8 ?k9 ?kB ?_ ?c2 ?c3 ?c4 ?c5; (case kA => exact rfl); (case kF => exact rfl); (case kK => assumption); (case k1 => k_asm); (case k2 => k_asm); (case k3 => k_asm); (case k4 => k_asm); (case k5 => k_asm); (case k6 => k_is); (case k7 => k_is); (case k8 => ktr_room); (case k9 => exact BindsTo.of_eq rfl); (case c5 => decide); (case kB => exact locs rfl); (case c2 => exact rfl); (case c3 => exact rfl); (case c4 => exact rfl))
  intro g' L' h' FG' F' N' B' X' T' D'
  (try dsimp only)
  refine c_execs_cons (c_Try ?_)
  refine c_execs_cons (c_Expr (c_Call_Name ?_))
  k_steps
  refine c_callK (K := hd.heap_39 w.params) (by k_is) ?_
  k_steps
  refine c_any ?_
  k_dflt (refine' c_parse229 _ _ _ 0 _ _ _ _ _ _ _ _ _ _ _ _ _ _ _ _ _ _ _ _ _ ?k1 ?k2 ?k3 ?k4 ?k5 ?kK ?kp ?kd ?ku ?kR)
  (case k1 => k_asm); (case k2 => k_asm); (case k3 => k_asm); (case k4 => k_asm); (case k5 => k_asm); (case kK => first | exact rfl | assumption); (case kp => exact ⟨hpre, num_vac hne⟩); (case kd => ktr_room); (case ku => ktr_units)
  refine ⟨fun p t h' tk' h3 => absurd h3 hne, ?_⟩
  intro e9 t9 g9 h9 tk9 F9 U9 _ R9
  rw [if_pos ho] at R9
  (try dsimp only)
  k_steps
  · refine hret _ _ _ ?fF ?fN
    case fF => k_asm
    case fN => first | k_asm | (refine' cb_drop ?cbN ?cbS; (case cbN => assumption); (case cbS => kcj_all))
  · exact self_ne (by with_reducible assumption)
theorem c_refused_2 {w mean mg mb} {news : Ledger} (x : PySem.Str) (tk : Tok) : CClaimL w mean mg mb 4 125 news (fun _ => Pre229 x ∧ (out229 x).1 = 2) [.str x tk]
   (fun h₀ L m s Q _ => ∀ (t : Tok) (h' : Heap) (tk' : Nat), Fr h₀ L h' m → News h₀ L h' news → Q (.int 2 t) { s with heap := h', toks := tk' }) := by
  unfold CClaimL
  k_fill
  w_top off
  k_with_none
  k_with "call type:str" => (k_here; (with_reducible show wpAny _ _ (call (Value.type "str") [Value.ref _]) _ _ _); k_dflt (refine' str_got ?Gw0 ?Nw0 ?Fw0 ?Xw0 ?lw0 ?bw0 ?uw0 ?_; (case Gw0 => with_reducible assumption); (case Nw0 => with_reducible assumption); (case Fw0 => with_reducible assumption); (case Xw0 => k_asm); (case lw0 => k_is); (case bw0 => k_is); (case uw0 => ktr_units)))
  intro dp un gd cn cs a ccd cl A₀ h₀ L m s Q E B F X N T hk hx hd9 hu9 hret
  obtain ⟨hpre, ho⟩ := hx
  have hne : (out229 x).1 ≠ 3 := by rw [ho]; decide
  refine c_call ?_
  k_dflt (refine' code_defPS ?k1 ?k2 ?k3 ?k4 ?k5 ?kA ?kF ?kK ?k6 ?k7 ?k8 ?k9 ?kB ?_ ?c2 ?c3 ?c4 ?c5; (case kA => exact rfl); (case kF => exact rfl); (case kK => assumption); (case k1 => k_asm); (case k2 => k_asm); (case k3 => k_asm); (case k4 => k_asm); (case k5 => k_asm); (case k6 => k_is); (case k7 => k_is); (case k8 => ktr_room); (case k9 => exact BindsTo.of_eq rfl); (case c5 => decide); (case kB => exact locs rfl); (case c2 => exact rfl); (case c3 => exact rfl); (case c4 => exact rfl))
  intro g' L' h' FG' F' N' B' X' T' D'
  (try dsimp only)
  refine c_execs_cons (c_Try ?_)
  refine c_execs_cons (c_Expr (c_Call_Name ?_))
  k_steps
  refine c_callK (K := hd.heap_39 w.params) (by k_is) ?_
  k_steps
  refine c_any ?_
  k_dflt (refine' c_parse229 _ _ _ 0 _ _ _ _ _ _ _ _ _ _ _ _ _ _ _ _ _ _ _ _ _ ?k1 ?k2 ?k3 ?k4 ?k5 ?kK ?kp ?kd ?ku ?kR)
  (case k1 => k_asm); (case k2 => k_asm); (case k3 => k_asm); (case k4 => k_asm); (case k5 => k_asm); (case kK => first | exact rfl | assumption); (case kp => exact ⟨hpre, num_vac hne⟩); (case kd => ktr_room); (case ku => ktr_units)
  refine ⟨fun p t h' tk' h3 => absurd h3 hne, ?_⟩
  intro e9 t9 g9 h9 tk9 F9 U9 _ R9
  rw [if_neg (show ¬ (out229 x).1 = 1 by rw [ho]; decide)] at R9
  (try dsimp only)
  k_steps
  · refine hret _ _ _ ?fF ?fN
    case fF => k_asm
    case fN => first | k_asm | (refine' cb_drop ?cbN ?cbS; (case cbN => assumption); (case cbS => kcj_all))
  · exact self_ne (by with_reducible assumption)
end Mine
end
section
open PySem PySem.W PySem.Spec PySem.Calls PySem.NumText PyProof.Rows
set_option maxRecDepth 100000
namespace Mine
/-- what _law_refused says of the reply of a form -/
noncomputable def resOf (f : Int) : Int := if f = 1 then 1 else if f = 9 then 3 else 2
theorem c_refs {w mean mg mb} {news : Ledger} (c f : Int) (tk : Tok) : CClaimL w mean mg mb 4 125 news (fun _ => 1 ≤ f ∧ f ≤ 9) [.str (replyS c f) tk]
   (fun h₀ L m s Q _ => ∀ (t : Tok) (h' : Heap) (tk' : Nat), Fr h₀ L h' m → News h₀ L h' news → Q (.int (resOf f) t) { s with heap := h', toks := tk' }) := by
  intro dp un gd cn cs a ccd cl A₀ h₀ L m s Q E B F X N T hk hx hd9 hu9 hret
  by_cases h1 : f = 1
  · subst h1
    exact c_refused_1 (replyS c 1) tk dp un gd cn cs a ccd cl A₀ h₀ L m s Q E B F X N T hk reply_1 hd9 hu9 hret
  by_cases h9 : f = 9
  · subst h9
    exact c_refused_bad (replyS c 9) tk dp un gd cn cs a ccd cl A₀ h₀ L m s Q E B F X N T hk reply_9 hd9 hu9 hret
  have e : resOf f = 2 := by unfold resOf; rw [if_neg h1, if_neg h9]
  rw [e] at hret
  exact c_refused_2 (replyS c f) tk dp un gd cn cs a ccd cl A₀ h₀ L m s Q E B F X N T hk (reply_28 (by omega) (by omega)) hd9 hu9 hret
end Mine
end
section
open PySem PySem.W PySem.Spec PySem.Calls PyProof.Rows
set_option maxRecDepth 100000
namespace Mine
open Sem (wp)
/-! a list comprehension over a range, under the caller -/
section
variable {M : Model} {A : Around} {E : Value → Shared → Prop} {s : Shared} {env : Env}
theorem c_Compare1 {l r : PySem.Expr} {op : CmpOp} {pos : Pos} {Q : Value → Shared → Prop}
    (h : wpC M A (eval l env) (fun a s₁ => wpAny M A (eval r env) (fun b s₂ => wpAny M A (compareOp op a b) Q E s₂) E s₁) E s) (hm : behindInMarks op r = false := by with_unfolding_all rfl) :
    wpC M A (eval (.Compare l [op] [r] pos) env) Q E s := fun Γ p hΓ hc => by
  simp only [eval_Compare1, markedBehindIn_of_false hm, Sem.wp_bind', Sem.wp_holding, Sem.wp_cmd_standAt, Sem.wp_operate]
  exact Sem.wp_mono M Γ _ (fun a p₁ s₁ h₁ => Sem.wp_mono M Γ _ (fun b _ s₂ h₂ => h₂ Γ _ hΓ) (fun _ _ _ h' => h') _ _ (h₁ Γ p₁ hΓ)) (fun _ _ _ h' => h') _ _ (h Γ p hΓ hc)
theorem c_both {α : Type} {c : Prop} [Decidable c] {a b : Sem α} {Q : α → Shared → Prop} (h1 : wpC M A a Q E s) (h2 : wpC M A b Q E s) : wpC M A (if c then a else b) Q E s := by
  split
  · exact h1
  · exact h2
theorem c_standIf {α : Type} {c : Prop} [Decidable c] {pos : Pos} {k : PUnit → Sem α} {Q : α → Shared → Prop} (h : wpC M A (k ()) Q E s) : wpC M A (if c then (standAt pos >>= k) else k ()) Q E s :=
  c_both (c_step (wpAny_standAt h)) h
theorem code_loop {c : Code} {R : Result → Shared → Prop} (hq : c.quiet = true) (I : Nat → Shared → Prop)
    (turn : ∀ n s, I n s → wpC M (A.under c) (M.den c) (fun fin s' => match fin with | .done f => R (.ok f) s' | .again c' => c' = c ∧ ∃ m, m < n ∧ I m s') (fun e s' => R (.error e) s') s) :
    ∀ (n : Nat) (s : Shared), I n s → codeC M A c R s := by
  intro n
  induction n using Nat.strongRecOn with
  | ind n ih =>
    intro s h
    refine code_tree (c_mono (turn n s h) (fun fin s' hf => ?_) fun _ _ x => x)
    cases fin with
    | done f => exact hf
    | again c' =>
      obtain ⟨rfl, m, hm, hI⟩ := hf
      exact ⟨hq, ih m hm s' hI⟩
end
section
variable {prog : Program} {w : World} {A : Around} {E : Value → Shared → Prop} {R : Result → Shared → Prop} {s : Shared} {env : Env}
theorem code_compLoop {elt target iter : PySem.Expr} {scope : Scope} {pos : Pos} {it acc : Value} (I : Nat → Shared → Prop)
    (turn : ∀ n s (E' : Value → Shared → Prop), I n s → wpAny (model prog w) A (pyNext it) (fun r s₁ => match r with
      | none => R (.ok .next) s₁
      | some v => wpAny (model prog w) A (assign target env v) (fun _ s₂ => wpC (model prog w) A (eval elt env) (fun x s₃ =>
          wpAny (model prog w) A (call (.builtin "list.append") [acc, x]) (fun _ s₄ => ∃ m, m < n ∧ I m s₄) E' s₃) E' s₂) E' s₁) E' s)
    (n : Nat) (h : I n s) (ht : ∀ v, letOwnedTupleGo target it v = pure () := by intro _; rfl) :
    codeC (model prog w) A (.compLoop (.ListComp elt [⟨target, iter, [], 0⟩] scope pos) 0 it acc env) R s := by
  refine code_loop rfl I (fun n s hI => ?_) n s h
  show wpC _ A ((compTurn (.ListComp elt [⟨target, iter, [], 0⟩] scope pos) 0 it acc env).onRaise (fun x => do noteFrame x env; theTreesLotGoes x)) _ _ s
  refine c_onRaise ?_
  rw [compTurn_list1]
  refine c_step (wpAny_standAt (c_step (wpAny_mono (turn n s _ hI) (fun r s₁ h₁ => ?_) fun _ _ x => x)))
  cases r with
  | none => exact c_pure h₁
  | some v =>
    refine c_step (wpAny_of_eq (ht v) ?_)
    refine c_step (wpAny_mono h₁ (fun _ s₂ h₂ => ?_) fun _ _ x => x)
    refine c_bind (c_bind (c_mono h₂ (fun y s₃ h₃ => ?_) fun _ _ x => x))
    exact c_step (wpAny_mono h₃ (fun _ s₄ h₄ => c_pure (c_pure ⟨rfl, h₄⟩)) fun _ _ x => x)
theorem code_compStart {elt target iter : PySem.Expr} {scope : Scope} {pos : Pos} {it acc : Value}
    (h0 : codeC (model prog w) A (.compLoop (.ListComp elt [⟨target, iter, [], 0⟩] scope pos) 0 it acc env) R s)
    (h : ∀ E', wpAny (model prog w) A (pyIter it) (fun it' s' => codeC (model prog w) A (.compLoop (.ListComp elt [⟨target, iter, [], 0⟩] scope pos) 0 it' acc env) R s') E' s) :
    codeC (model prog w) A (.compStart (.ListComp elt [⟨target, iter, [], 0⟩] scope pos) 0 it acc env) R s := by
  refine code_tree ?_
  show wpC _ _ ((compStart (.ListComp elt [⟨target, iter, [], 0⟩] scope pos) 0 it acc env).onRaise (fun x => do noteFrame x env; standAt theWindowsPlace)) _ _ s
  refine c_onRaise ?_
  unfold compStart
  show wpC _ _ (ask >>= _) _ _ s
  refine c_step (wpAny_askSetting ?_)
  refine c_both ?_ ?_
  · first
      | exact c_step (wpAny_pure (c_pure (And.intro rfl h0)))
      | exact c_pure (And.intro rfl h0)
  · refine c_step (wpAny_rule ?_)
    first
      | exact c_step (wpAny_standAt (c_step (wpAny_mono (h _) (fun it' s' h' => c_pure (And.intro rfl h')) fun _ _ x => x)))
      | (show wpC _ _ (standAt iter.pos >>= _) _ _ s; exact c_step (wpAny_standAt (c_step (wpAny_mono (h _) (fun it' s' h' => c_pure (And.intro rfl h')) fun _ _ x => x))))
/-- the comprehension, down to its first step -/
theorem c_comp {e : PySem.Expr} {scope : Scope} {pos : Pos} {newAcc first : Sem Value} {g : Comprehension} {gs : List Comprehension} {cl : List (PySem.Str × Addr)} {Q : Value → Shared → Prop}
    (hcl : clausesOf e = g :: gs) (hs : ∀ x, foldedSetIterable g.iter env x = pure x) (hclos : closureFor scope env = pure cl)
    (hkind : scope.kind = .function) (hnames : ∀ x ∈ scope.names, x.2 = .local → scope.names.lookup x.1 = some .local)
    (h : wpAny (model prog w) A first (fun x s₁ => wpAny (model prog w) A (pyIter x) (fun it s₂ => wpAny (model prog w) A newAcc (fun acc s₃ =>
      wpAny (model prog w) A (newFunctionEnv scope env.globals cl [] env.qual none .none (some env)) (fun cenv s₄ =>
        codeC (model prog w) A (.compStart e 0 it acc { cenv with scope := relabel scope env }) (compPost (model prog w) A E none Q acc cenv.locals) s₄) E s₃) E s₂) E s₁) E s) :
    wpC (model prog w) A (comprehension e scope env pos newAcc false first none) Q E s := by
  unfold comprehension
  rw [hclos, hcl]
  refine c_step (wpAny_mono h (fun x s₁ h₁ => ?_) fun _ _ x => x)
  refine c_step (wpAny_standAt (c_step (wpAny_of_eq (hs x) (c_step (wpAny_holding (wpAny_mono h₁ (fun it s₂ h₂ => ?_) fun _ _ x => x))))))
  refine c_standIf (c_step (wpAny_mono h₂ (fun acc s₃ h₃ => ?_) fun _ _ x => x))
  refine c_step (wpAny_pure (c_step (wpAny_mono h₃ (fun cenv s₄ h₄ => ?_) fun _ _ x => x)))
  dsimp only
  have hv : ∀ x ∈ (scope.names.filter fun x => (x.2 == .local || x.2 == .cell) && x.1 != (".0" : PySem.Str)).reverse, x.2 = .local →
      Env.kindOf { cenv with scope := relabel scope env } x.1 = some .local := fun x hx hl => lookup_relabel_local (hnames x (List.mem_filter.mp (List.mem_reverse.mp hx)).1 hl)
  refine c_holding (c_bind (c_attempt (c_holding (c_run (code_mono h₄ fun r s' hr => ?_) (by intro x; cases x)))))
  cases r with
  | ok f =>
    obtain ⟨m, hn, hr⟩ := hr
    exact c_step (wpAny_holding (wpAny_comp_letGo (cenv := { cenv with scope := relabel scope env }) hkind _ s' m hv hn fun h' m' _ hs' => c_pure (hr h' hs')))
  | error x =>
    obtain ⟨m, hn, hr⟩ := hr
    exact c_step (wpAny_holding (wpAny_comp_letGo (cenv := { cenv with scope := relabel scope env }) hkind _ s' m hv hn fun h' m' _ hs' => c_any (wpAny_mono (hr h' hs' _ rfl) (fun _ _ f => f.elim) fun _ _ y => y)))
end
end Mine
end
section
open PySem PySem.W PySem.Spec PySem.Calls PyProof.Rows
set_option maxRecDepth 100000
namespace Mine
section
variable {prog : Program} {w : World} {A : Around} {E : Value → Shared → Prop} {s : Shared} {h₀ : Heap} {L : Addr} {m : Names} {env : Env}
/-- the range that the comprehension under the caller goes over, its turn and its end -/
noncomputable def SrcC (prog : Program) (w : World) (A : Around) (h₀ : Heap) (L : Addr) (m : Names) (env : Env) (elt : PySem.Expr) (x : PySem.Str) (scope : Scope) (cl : List (PySem.Str × Addr)) (Q : Value → Shared → Prop) (xv : Value) (s₁ : Shared) : Prop :=
  ∃ (r : Addr) (a b : Int) (t u v : Tok) (n : Nat) (news : Ledger) (R : Nat → Value → Prop), xv = .ref r ∧ A.handled = none ∧ Fr h₀ L s₁.heap m ∧ News h₀ L s₁.heap news ∧ IsRange s₁.heap r a b 1 t u v ∧ Builtin.Range.small a b 1 = true ∧ Builtin.Range.rangeSize a b 1 = ((n : Nat) : Int) ∧ n ≤ sizeLine ∧
    (∀ (i : Nat) (t' : Tok) I oI C oC D m₂ ys h tk (E' : Value → Shared → Prop), i < n → LCg.NsObj oC m₂ → m₂ x = some (.int (a + (i : Int)) t') → Fr h₀ L h m → News h₀ L h ((I, oI) :: (C, oC) :: (D, LCg.lst ys) :: news) → LCg.Off3 I C D news → ((@Ne Nat I C) ∧ (@Ne Nat I D) ∧ (@Ne Nat C D)) →
      wpC (model prog w) A (eval elt (compEnvC scope cl C env)) (LCg.CompEnd h₀ L m { s₁ with heap := h, toks := tk } I oI C oC D (LCg.lst ys) (fun _ => True) (fun y news' => REl news (R i) y news')) E' { s₁ with heap := h, toks := tk }) ∧
    (∀ D h tk ys, ys.length = n → (∀ (i : Nat) y, ys[i]? = some y → R i y) → Fr h₀ L h m → News h₀ L h ((D, LCg.lst ys) :: news) → LCg.Off1 D news → Q (.ref D) { s₁ with heap := h, toks := tk })
theorem getElem?_snoc {α : Type} {l : List α} {x y : α} {i : Nat} (h : (l ++ [x])[i]? = some y) : l[i]? = some y ∨ (i = l.length ∧ y = x) := by
  rcases Nat.lt_trichotomy i l.length with h1 | h1 | h1
  · rw [List.getElem?_append_left h1] at h; exact .inl h
  · rw [h1, List.getElem?_append_right (Nat.le_refl _), Nat.sub_self] at h
    exact .inr ⟨h1, (Option.some.inj h).symm⟩
  · rw [List.getElem?_eq_none (by simp; omega)] at h; cases h
theorem ListComp_C {elt iter : PySem.Expr} {x : PySem.Str} {px : Pos} {scope : Scope} {cl : List (PySem.Str × Addr)} {pos : Pos} {Q : Value → Shared → Prop} (_ : Fr h₀ L s.heap m)
    (hclos : closureFor scope env = pure cl) (hcell : ∀ y ∈ scope.names, y.2 ≠ .cell) (hkind : scope.kind = .function)
    (hnames : ∀ y ∈ scope.names, y.2 = .local → scope.names.lookup y.1 = some .local) (hx : scope.names.lookup x = some .local)
    (h : wpAny (model prog w) A (eval iter env) (SrcC prog w A h₀ L m env elt x scope cl Q) E s)
    (hs : ∀ x, foldedSetIterable iter env x = pure x := by intro _; rfl) :
    wpC (model prog w) A (eval (.ListComp elt [⟨.Name x px, iter, [], 0⟩] scope pos) env) Q E s := by
  rw [eval_ListComp]
  refine c_comp rfl hs hclos hkind hnames (wpAny_mono h (fun xv s₁ h₁ => ?_) fun _ _ e => e)
  obtain ⟨r, a, b, t, u, v, n, news, R, rfl, hh, F, N, hr, hsm, hn, hsz, turn, fin⟩ := h₁
  refine wpAny_pyIter_range hr hsm ?_
  refine wpAny_newObj_type (wpAny_newFunctionEnv hcell (by intro y hy; simp at hy) (fun h₁ hns₁ hsb₁ => ?_) hkind)
  dsimp only at hns₁ hsb₁ ⊢
  have W := LCg.range_walks (prog := prog) (w := w) (I := s₁.heap.objs.size) hh a n
  generalize hH1 : s₁.heap.push _ = H1 at hns₁ hsb₁ ⊢
  have e1 : H1.objs.size = s₁.heap.objs.size + 1 := by rw [← hH1, Heap.size_push]
  generalize hH2 : H1.push _ = H2 at hns₁ hsb₁ ⊢
  have e2 : H2.objs.size = s₁.heap.objs.size + 2 := by rw [← hH2, Heap.size_push, e1]
  have hIit : IsRangeIter H1 s₁.heap.objs.size a (Builtin.Range.rangeSize a b 1) 1 := by rw [← hH1]; exact Heap.get?_push_size _ rfl
  have hDl : H2.get? H1.objs.size = some (LCg.lst []) := by rw [← hH2]; exact Heap.get?_push_size _ rfl
  generalize hI : s₁.heap.objs.size = I at *
  generalize hD : H1.objs.size = D at *
  generalize hC : H2.objs.size = C at *
  have nIC : I ≠ C := fun q => by have q' : @Eq Nat I C := q; omega
  have nID : I ≠ D := fun q => by have q' : @Eq Nat I D := q; omega
  have nDC : D ≠ C := fun q => by have q' : @Eq Nat D C := q; omega
  have up1 : ∀ b o, s₁.heap.get? b = some o → H1.get? b = some o := fun b o e => by rw [← hH1]; exact Heap.get?_push_of_some _ e
  have up2 : ∀ b o, H1.get? b = some o → H2.get? b = some o := fun b o e => by rw [← hH2]; exact Heap.get?_push_of_some _ e
  have up3 : ∀ b o, H2.get? b = some o → h₁.get? b = some o := fun b o e => hsb₁.extBut b o (fun q => by
    have : @LT.lt Nat _ b H2.objs.size := Heap.lt_size e
    have q' : @Eq Nat b C := q
    omega) (Heap.get?_push_of_some _ e)
  have old : ∀ b o, s₁.heap.get? b = some o → h₁.get? b = some o := fun b o e => up3 b o (up2 b o (up1 b o e))
  have none_of : ∀ q, I ≤ q → h₀.get? q = none := fun q hq => by
    cases e : h₀.get? q with
    | none => rfl
    | some o' =>
      have := Heap.lt_size (F.keep q o' e)
      rw [hI] at this
      exact absurd this (Nat.not_lt.mpr hq)
  have lt_of : ∀ p ∈ news, @LT.lt Nat _ p.1 I := fun p hp => by have := Heap.lt_size (N p hp).1; rw [hI] at this; exact this
  have hLI : @LT.lt Nat _ L I := by have := F.ns.lt; rw [hI] at this; exact this
  have I₀ : h₀.get? I = none := none_of I (Nat.le_refl _)
  have C₀ : h₀.get? C = none := none_of C (by omega)
  have D₀ : h₀.get? D = none := none_of D (by omega)
  have nLI : L ≠ I := Nat.ne_of_lt hLI
  have nCL : C ≠ L := fun q => by have q' : @Eq Nat C L := q; omega
  have nDL : D ≠ L := fun q => by have q' : @Eq Nat D L := q; omega
  have off : LCg.Off3 I C D news := LCg.Off3.of fun p hp => by
    have := lt_of p hp
    exact ⟨Nat.ne_of_lt this, Nat.ne_of_lt (by omega), Nat.ne_of_lt (by omega)⟩
  have hstI : IsRangeIter h₁ I (a + ((0 : Nat) : Int) * 1) ((n : Int) - ((0 : Nat) : Int)) 1 := by
    have := up3 _ _ (up2 _ _ hIit)
    show h₁.get? I = some _
    rw [this, hn]; simp
  have loop : codeC (model prog w) A (.compLoop (.ListComp elt [⟨.Name x px, iter, [], 0⟩] scope pos) 0 (.ref I) (.ref D) (compEnvC scope cl C env)) (compPost (model prog w) A E none Q (.ref D) C) { s₁ with heap := h₁, toks := s₁.toks + ([] : List (PySem.Str × Value)).length } := by
    refine code_compLoop
      (fun k s' => ∃ h' tk i ys m', s' = { s₁ with heap := h', toks := tk } ∧ i ≤ n ∧ k = n + 1 - i ∧ ys.length = i ∧ (∀ (j : Nat) y, ys[j]? = some y → R j y) ∧ IsRangeIter h' I (a + (i : Nat) * 1) ((n : Int) - (i : Nat)) 1 ∧ Fr h₀ L h' m ∧ h'.Ns C m' ∧ News h₀ L h' ((D, LCg.lst ys) :: news)) ?_ (n + 1)
      ⟨h₁, _, 0, [], _, rfl, Nat.zero_le _, rfl, rfl, fun _ _ e => (by simp at e), ?_, F.keeps old, hns₁, fun p hp => ?_⟩
    · rintro k s' E' ⟨h', tk, i, ys, m', rfl, hi, rfl, hyl, hy, hst, F', hn', N'⟩
      have offD : ∀ p ∈ (D, LCg.lst ys) :: news, p.1 ≠ I ∧ p.1 ≠ C := fun p hp => by
        rcases List.mem_cons.mp hp with rfl | hp
        · exact ⟨Ne.symm nID, nDC⟩
        · have := off.mem p hp; exact ⟨this.1, this.2.1⟩
      by_cases hlt : i < n
      · refine W.item i _ _ _ hlt hst fun v h₂ tk₂ hP hst₂ hk₂ => ?_
        obtain ⟨t', rfl⟩ := hP
        refine wpAny_assign_Name (wpAny_storeName_local (lookup_relabel_local hx) (hn'.at' fun o e => hk₂ _ o (by simpa using Ne.symm nIC) e) (fun h₃ hn₃ hs₃ => ?_) (by simp [compEnvC, relabel, hkind]))
        have F₃ : Fr h₀ L h₃ m := (LCg.fr_but F' hk₂ nLI I₀).change hs₃ nCL C₀
        have N₂ := LCg.news_but N' hk₂ fun p hp => (offD p hp).1
        have hst₃ : IsRangeIter h₃ I (a + ((i + 1 : Nat) : Int) * 1) ((n : Int) - ((i + 1 : Nat) : Int)) 1 := W.frame _ _ _ hst₂ fun b hb o e => hs₃.extBut b o (fun q => by rw [List.mem_singleton.mp hb] at q; exact nIC q) e
        obtain ⟨oC, heC, hoC⟩ := LCg.ns_obj hn₃
        have N₃ : News h₀ L h₃ ((I, _) :: (C, oC) :: (D, LCg.lst ys) :: news) := fun p hp => by
          rcases List.mem_cons.mp hp with rfl | hp
          · exact ⟨hst₃, Ne.symm nLI, I₀⟩
          · rcases List.mem_cons.mp hp with rfl | hp
            · exact ⟨heC, nCL, C₀⟩
            · exact ⟨hs₃.extBut _ _ (offD p hp).2 (N₂ p hp).1, (N₂ p hp).2⟩
        refine c_mono (turn i t' I _ C oC D _ ys h₃ _ _ hlt hoC (by simp) F₃ N₃ off ⟨nIC, nID, Ne.symm nDC⟩) (fun y s₄ h₄ => ?_) fun _ _ e => e
        obtain ⟨h₄, tk₄, nw, rfl, F₄, N₄, off₄, _, rfl, hR⟩ := h₄
        have zI := (N₄ (I, _) (.head _)).1
        have zC := (N₄ (C, oC) (.tail _ (.head _))).1
        have zD := (N₄ (D, LCg.lst ys) (.tail _ (.tail _ (.head _)))).1
        have hst₄ : IsRangeIter h₄ I (a + ((i + 1 : Nat) : Int) * 1) ((n : Int) - ((i + 1 : Nat) : Int)) 1 := zI
        refine append_at (hsz := by show ys.toArray.size ≤ sizeLine; rw [List.size_toArray, hyl]; exact Nat.le_trans hi hsz) zD fun h₅ hs₅ hD₅ => ?_
        refine ⟨n + 1 - (i + 1), by omega, h₅, tk₄, i + 1, ys ++ [y], _, rfl, hlt, rfl, by rw [List.length_append, List.length_singleton, hyl], fun j z hz => ?_, W.frame _ _ _ hst₄ fun b hb o e => hs₅.extBut b o (fun q => by rw [List.mem_singleton.mp hb] at q; exact nID q) e,
          F₄.change hs₅ nDL D₀, (hoC.ns zC).sameBut hs₅ (Ne.symm nDC), fun p hp => ?_⟩
        · rcases getElem?_snoc hz with hz | ⟨rfl, rfl⟩
          · exact hy j z hz
          · rw [hyl]; exact hR
        · rcases List.mem_cons.mp hp with rfl | hp
          · exact ⟨hD₅.trans (congrArg some (LCg.lst_snoc ys y)), nDL, D₀⟩
          · have z := N₄ p (.tail _ (.tail _ (.tail _ hp)))
            exact ⟨hs₅.extBut _ _ (off.mem p hp).2.2 z.1, z.2⟩
      · obtain rfl : i = n := Nat.le_antisymm hi (Nat.not_lt.mp hlt)
        refine W.done _ _ _ hst fun h₂ tk₂ hk₂ => ?_
        have F₂ := LCg.fr_but F' hk₂ nLI I₀
        have N₂ := LCg.news_but N' hk₂ fun p hp => (offD p hp).1
        refine ⟨m', hn'.at' fun o e => hk₂ _ o (by simpa using Ne.symm nIC) e, fun h₃ hs₃ => fin D h₃ tk₂ ys hyl hy (F₂.change hs₃ nCL C₀) (fun p hp => ⟨hs₃.extBut _ _ (offD p hp).2 (N₂ p hp).1, (N₂ p hp).2⟩) off.one⟩
    · exact hstI
    · rcases List.mem_cons.mp hp with rfl | hp
      · exact ⟨up3 _ _ hDl, nDL, D₀⟩
      · exact ⟨old _ _ (N p hp).1, (N p hp).2⟩
  exact code_compStart loop fun E' => W.self 0 _ _ _ hstI loop
end
end Mine
end
section
open PySem PySem.W PySem.Spec PySem.Calls PyProof.Rows
set_option maxRecDepth 100000
namespace Mine
noncomputable def CheckJ (m0 : Names) (cK : Addr) (rest : Ledger) (m : Names) (n : Ledger) : Prop := m = m0 ∧ ∃ oK vk, n = (cK, oK) :: rest ∧ oK.data = Data.cell vk
section
variable {prog : Program} {w : World} {A : Around} {E : Value → Shared → Prop} {s : Shared} {h₀ : Heap} {m : Names} {env : Env} {x : PySem.Str} {px : Pos} {body : List Stmt} {Q : Flow → Shared → Prop}
  {cK lb lg cB : Addr} {vb vg : List Value} {nb ng : Nat} {oB : Obj} {fix1 : Ledger} {rest all : Ledger} {oK : Obj} {vk : Option Value} {r : Addr} {t u v : Tok}
theorem law_check (hE : PassesOwn (model prog w) A env E) (hh : A.handled = none) (F : Fr h₀ env.locals s.heap m) (N : News h₀ env.locals s.heap all) (sub : ∀ q ∈ (cK, oK) :: rest, q ∈ all) (dK : oK.data = Data.cell vk) (hr : IsRange s.heap r 0 12 1 t u v)
    (turn : ∀ (i : Nat) (t' : Tok) I it h tk oK vk, Idx (i : Int) 12 → oK.data = Data.cell vk → Fr h₀ env.locals h m → News h₀ env.locals h ((I, it) :: (cK, oK) :: rest) → (cK < I ∧ AllLt I rest) →
      wpAny (model prog w) A (storeName env x (.int (i : Int) t')) (fun _ s₂ => wpAny (model prog w) A (execs body env) (TurnEnd h₀ env.locals s I it (CheckJ m cK rest)) E s₂) E { s with heap := h, toks := tk })
    (fin : ∀ h tk oK vk, oK.data = Data.cell vk → Fr h₀ env.locals h m → News h₀ env.locals h ((cK, oK) :: rest) → Q .next { s with heap := h, toks := tk }) : ForAt prog w A env x px body Q E (.ref r) s := by
  have N0 : News h₀ env.locals s.heap ((cK, oK) :: rest) := fun q hq => N q (sub q hq)
  refine ForAt.range (n := 12) (fun _ => CheckJ m cK rest) hE hh F N0 hr (by decide) (by decide) ⟨rfl, _, _, rfl, dK⟩ ?_ ?_
  · intro i t' I it h tk m₁ news₁ hi hJ F₁ N₁ off₁ lt₁
    obtain ⟨rfl, oK, vk, rfl, dK⟩ := hJ
    rw [Int.zero_add]
    exact turn i t' I it h tk oK vk ⟨by omega, by omega⟩ dK F₁ N₁ ⟨lt₁ _ (.head _), allLt_of fun q hq => lt₁ q (.tail _ hq)⟩
  · intro h tk m' news' F' N' hJ
    obtain ⟨rfl, oK, vk, rfl, dK⟩ := hJ
    exact fin h tk oK vk dK F' N'
/-- the loop that asks what each box has given -/
theorem law_check2 (FX : FixIs fix1) (hE : PassesOwn (model prog w) A env E) (hh : A.handled = none) (F : Fr h₀ env.locals s.heap m) (N : News h₀ env.locals s.heap all) (m1 : (lb, listOf (List.toArray vb) nb) ∈ all) (m2 : (lg, listOf (List.toArray vg) ng) ∈ all) (m3 : (cK, oK) ∈ all) (m4 : (cB, oB) ∈ all) (mf : ∀ q ∈ fix1, q ∈ all)
    (dK : oK.data = Data.cell vk) (hr : IsRange s.heap r 0 12 1 t u v)
    (turn : ∀ (i : Nat) (t' : Tok) I it h tk oK vk, Idx (i : Int) 12 → oK.data = Data.cell vk → Fr h₀ env.locals h m → News h₀ env.locals h ((I, it) :: (cK, oK) :: (lb, listOf (List.toArray vb) nb) :: (lg, listOf (List.toArray vg) ng) :: (cB, oB) :: fix1) →
      (cK < I ∧ AllLt I ((lb, listOf (List.toArray vb) nb) :: (lg, listOf (List.toArray vg) ng) :: (cB, oB) :: fix1)) →
      wpAny (model prog w) A (storeName env x (.int (i : Int) t')) (fun _ s₂ => wpAny (model prog w) A (execs body env) (TurnEnd h₀ env.locals s I it (CheckJ m cK ((lb, listOf (List.toArray vb) nb) :: (lg, listOf (List.toArray vg) ng) :: (cB, oB) :: fix1))) E s₂) E { s with heap := h, toks := tk })
    (fin : ∀ h tk oK vk, oK.data = Data.cell vk → Fr h₀ env.locals h m → News h₀ env.locals h ((cK, oK) :: (lb, listOf (List.toArray vb) nb) :: (lg, listOf (List.toArray vg) ng) :: (cB, oB) :: fix1) → Q .next { s with heap := h, toks := tk }) : ForAt prog w A env x px body Q E (.ref r) s := by
  refine law_check hE hh F N (fun q hq => ?_) dK hr turn fin
  rcases List.mem_cons.mp hq with rfl | hq
  · exact m3
  rcases List.mem_cons.mp hq with rfl | hq
  · exact m1
  rcases List.mem_cons.mp hq with rfl | hq
  · exact m2
  rcases List.mem_cons.mp hq with rfl | hq
  · exact m4
  · exact mf q hq
theorem check_turn {h' : Heap} {L : Addr} {m' : Names} {I : Addr} {it : Obj} {tk : Nat} (F : Fr h₀ L h' m') (N : News h₀ L h' all) (sub : ∀ q ∈ (I, it) :: (cK, oK) :: rest, q ∈ all) (lt : cK < I ∧ AllLt I rest) (dK : oK.data = Data.cell vk) :
    TurnEnd h₀ L s I it (CheckJ m' cK rest) .next { s with heap := h', toks := tk } := by
  refine TurnEnd.intro _ F N sub ?_ ⟨rfl, _, _, rfl, dK⟩
  intro q hq
  rcases List.mem_cons.mp hq with rfl | hq
  · exact Nat.ne_of_lt lt.1
  · exact Nat.ne_of_lt (kst_ltOf lt.2 q hq)
end
theorem good_end {c : ClaimW} {cl : PySem.Str → Option Addr} {mean : ExcName → Option Value} {args : List WData} {s₁ : Shared} {h : Heap} {g : Array GenState} {d : Drawn} {t : Nat} {b : Bool}
    (hk : ∀ b o, s₁.heap.get? b = some o → h.get? b = some o) (hr : ∀ cls, c.raises args cls = false) (hp : c.post args (.bool b) args = true) (hg : g = #[]) : GoodWG c cl mean args s₁ (.ok (.ret (.bool b))) ⟨h, g, d, t, s₁.os⟩ :=
  ⟨.inl ⟨_, _, [], rfl, hr, ReadsW.bool b, hp, fun _ => ⟨List.nodup_nil, fun _ hm => (nomatch hm)⟩⟩, .of_keep hk, rfl, .of_eq hg⟩
/-! what each box has given -/
noncomputable def modF {i : Int} {n : Nat} (_ : Idx i n) (x : Int) : Int := (x.fmod 1024).fmod (2 ^ (i + 1).toNat)
theorem modF_nat {i : Nat} (h : Idx (i : Int) 12) (x : Int) : modF h x = ((portN x % 2 ^ (i + 1) : Nat) : Int) := by
  unfold modF
  rw [← portN_eq, show ((i : Int) + 1).toNat = i + 1 by omega, show (2 : Int) ^ (i + 1) = ((2 ^ (i + 1) : Nat) : Int) by push_cast; rfl, Int.fmod_eq_emod_of_nonneg _ (Int.natCast_nonneg _)]
  rfl
theorem modF_sum {i : Nat} (h : Idx (i : Int) 12) : ∀ l : List Int, (l.map (modF h)).sum = ((Rw (l.map portN) i : Nat) : Int)
  | [] => rfl
  | x :: l => by
    have ih := modF_sum h l
    unfold Rw at ih ⊢
    simp only [List.map_cons, List.sum_cons]
    rw [ih, modF_nat]
    push_cast
    rfl
theorem check_eq {C B G : List Int} {i : Nat} (h : Idx (i : Int) 12) (inv : Inv (portsOf C 4) B G) (low : LowB B 12) : G.getD (i : Int).toNat 0 = (((List.take 4 C).map (modF h)).sum).fdiv (2 ^ ((i : Int) + 1).toNat) := by
  have hi : i < 12 := by have := h.2; omega
  rw [Int.toNat_natCast, inv.given low i hi, modF_sum, show ((i : Int) + 1).toNat = i + 1 by omega, show (2 : Int) ^ (i + 1) = ((2 ^ (i + 1) : Nat) : Int) by push_cast; rfl, Int.fdiv_eq_ediv_of_nonneg _ (Int.natCast_nonneg _)]
  rfl
theorem idx_lt {B G : List Int} {ps : List Nat} {k : Int} (inv : Inv ps B G) (h : Idx k 12) : k < (G.length : Int) := by rw [inv.lG]; exact h.2
theorem pow_nz (k : Nat) : (2 : Int) ^ k ≠ 0 := Int.ne_of_gt (kbt_pos k)
theorem take_sz {vs : List Value} {C : List Int} (h : IntsAre vs (List.take 4 C)) : vs.toArray.size ≤ sizeLine := kmk_sz h (by rw [sizeLine_eq, List.length_take]; omega)
end Mine
end
section
open PySem PySem.W PySem.Spec PySem.Calls PyProof.Rows
set_option maxRecDepth 100000
namespace Mine
/-! the letters at the end -/
noncomputable def letF {ps : List Nat} {B G : List Int} (_ : Inv ps B G) (k : Int) : Int := 65 + B.getD k.toNat 0 + 2 * B.getD (k + 1).toNat 0 + 4 * B.getD (k + 2).toNat 0 + 8 * B.getD (k + 3).toNat 0
theorem let_idx {k : Int} (h : k ∈ ([8, 4, 0] : List Int)) : 0 ≤ k ∧ k ≤ 8 := by
  simp only [List.mem_cons, List.not_mem_nil, or_false] at h
  omega
theorem ports_total {ps : List Nat} (h : PsOk ps) : ps.sum < 4096 := by
  have := sum_le ps h.2
  have h1 := h.1
  omega
theorem inv_idx {ps : List Nat} {B G : List Int} {j : Nat} (inv : Inv ps B G) (h : PsOk ps) : Idx (B.getD j 0) 12 := by
  have := inv.bound h.1 h.2 j
  exact ⟨this.1, Int.lt_of_le_of_lt this.2 (by decide)⟩
theorem nib {x y z w : Int} (hx : 0 ≤ x ∧ x ≤ 1) (hy : 0 ≤ y ∧ y ≤ 1) (hz : 0 ≤ z ∧ z ≤ 1) (hw : 0 ≤ w ∧ w ≤ 1) : 0 ≤ x + 2 * y + 4 * z + 8 * w ∧ x + 2 * y + 4 * z + 8 * w ≤ 15 := by omega
theorem dig3 {T : Nat} {a b c d : Int} (h : c + 16 * b + 256 * a + 4096 * d = (T : Int)) (ha : 0 ≤ a ∧ a ≤ 15) (hb : 0 ≤ b ∧ b ≤ 15) (hc : 0 ≤ c ∧ c ≤ 15) (hd : 0 ≤ d) (hT : T < 4096) : a = ((T / 256 : Nat) : Int) ∧ b = ((T / 16 % 16 : Nat) : Int) ∧ c = ((T % 16 : Nat) : Int) := by
  have h0 : d = 0 := by omega
  subst h0
  refine ⟨?_, ?_, ?_⟩ <;> omega
theorem regroup (x0 x1 x2 x3 x4 x5 x6 x7 x8 x9 x10 x11 x12 : Int) : x0 + 2 * x1 + 4 * x2 + 8 * x3 + 16 * (x4 + 2 * x5 + 4 * x6 + 8 * x7) + 256 * (x8 + 2 * x9 + 4 * x10 + 8 * x11) + 4096 * x12 =
    x0 + x1 * 2 + x2 * 4 + x3 * 8 + x4 * 16 + x5 * 32 + x6 * 64 + x7 * 128 + x8 * 256 + x9 * 512 + x10 * 1024 + x11 * 2048 + x12 * 4096 := by omega
theorem Mw12 (B : List Int) : Mw B 12 = B.getD 0 0 + B.getD 1 0 * 2 + B.getD 2 0 * 4 + B.getD 3 0 * 8 + B.getD 4 0 * 16 + B.getD 5 0 * 32 + B.getD 6 0 * 64 + B.getD 7 0 * 128 + B.getD 8 0 * 256 + B.getD 9 0 * 512 + B.getD 10 0 * 1024 + B.getD 11 0 * 2048 + B.getD 12 0 * 4096 := rfl
theorem lets_are {ps : List Nat} {B G : List Int} (inv : Inv ps B G) (low : LowB B 12) (h : PsOk ps) :
    ([8, 4, 0] : List Int).map (letF inv) = [65 + ((ps.sum / 256 : Nat) : Int), 65 + ((ps.sum / 16 % 16 : Nat) : Int), 65 + ((ps.sum % 16 : Nat) : Int)] := by
  have b : ∀ j, j < 12 → 0 ≤ B.getD j 0 ∧ B.getD j 0 ≤ 1 := fun j hj => by rcases low j hj with e | e <;> rw [e] <;> decide
  have top := inv.top
  rw [Mw12, ← regroup] at top
  obtain ⟨h1, h2, h3⟩ := dig3 top (nib (b 8 (by decide)) (b 9 (by decide)) (b 10 (by decide)) (b 11 (by decide))) (nib (b 4 (by decide)) (b 5 (by decide)) (b 6 (by decide)) (b 7 (by decide))) (nib (b 0 (by decide)) (b 1 (by decide)) (b 2 (by decide)) (b 3 (by decide))) (inv.nB 12) (ports_total h)
  have g : ∀ x y z w : Int, 65 + x + 2 * y + 4 * z + 8 * w = 65 + (x + 2 * y + 4 * z + 8 * w) := fun x y z w => by omega
  show [65 + B.getD 8 0 + 2 * B.getD 9 0 + 4 * B.getD 10 0 + 8 * B.getD 11 0, 65 + B.getD 4 0 + 2 * B.getD 5 0 + 4 * B.getD 6 0 + 8 * B.getD 7 0, 65 + B.getD 0 0 + 2 * B.getD 1 0 + 4 * B.getD 2 0 + 8 * B.getD 3 0] = _
  rw [g, g, g, h1, h2, h3]
/-- the three letters of a total -/
noncomputable def lettersOf (T : Nat) : List UInt8 := [UInt8.ofNat (65 + T / 256), UInt8.ofNat (65 + T / 16 % 16), UInt8.ofNat (65 + T % 16)]
theorem ap3 {T : Nat} (h : T < 4096) : (T = 0 ∧ ap16 T = []) ∨ (0 < T ∧ T < 16 ∧ ap16 T = [UInt8.ofNat (65 + T % 16)]) ∨ (16 ≤ T ∧ T < 256 ∧ ap16 T = [UInt8.ofNat (65 + T / 16 % 16), UInt8.ofNat (65 + T % 16)]) ∨
    (256 ≤ T ∧ ap16 T = [UInt8.ofNat (65 + T / 256), UInt8.ofNat (65 + T / 16 % 16), UInt8.ofNat (65 + T % 16)]) := by
  by_cases h0 : T = 0
  · exact .inl ⟨h0, by rw [h0]; exact ap16_zero⟩
  by_cases h1 : T / 16 = 0
  · refine .inr (.inl ⟨by omega, by omega, ?_⟩)
    rw [ap16_pos h0, h1, ap16_zero]; rfl
  by_cases h2 : T / 16 / 16 = 0
  · refine .inr (.inr (.inl ⟨by omega, by omega, ?_⟩))
    rw [ap16_pos h0, ap16_pos h1, h2, ap16_zero]; rfl
  · refine .inr (.inr (.inr ⟨by omega, ?_⟩))
    have e : T / 16 / 16 % 16 = T / 256 := by omega
    have e2 : T / 16 / 16 / 16 = 0 := by omega
    rw [ap16_pos h0, ap16_pos h1, ap16_pos h2, e2, ap16_zero, e]; rfl
theorem ap_pad {T : Nat} (h : T < 4096) : (List.replicate ((3 : Int) - ((ap16 T).length : Nat)).toNat [(65 : UInt8)]).flatten ++ ap16 T = lettersOf T := by
  unfold lettersOf
  rcases ap3 h with ⟨rfl, e⟩ | ⟨h1, h2, e⟩ | ⟨h1, h2, e⟩ | ⟨h1, e⟩
  · rw [e]; decide
  · rw [e, show T / 256 = 0 by omega, show T / 16 % 16 = 0 by omega]; rfl
  · rw [e, show T / 256 = 0 by omega]; rfl
  · rw [e]; rfl
theorem ap_head {T : Nat} (h : T < 4096) : ∀ r, ap16 T ≠ 65 :: r := by
  have key : ∀ d : Nat, d < 16 → d ≠ 0 → UInt8.ofNat (65 + d) ≠ 65 := by decide
  intro r e
  rcases ap3 h with ⟨rfl, e1⟩ | ⟨h1, h2, e1⟩ | ⟨h1, h2, e1⟩ | ⟨h1, e1⟩
  · rw [e1] at e; cases e
  · rw [e1] at e; injection e with e _; exact key _ (by omega) (by omega) e
  · rw [e1] at e; injection e with e _; exact key _ (by omega) (by omega) e
  · rw [e1] at e; injection e with e _; exact key _ (by omega) (by omega) e
section
variable {prog : Program} {w : World} {A : Around} {E : Value → Shared → Prop} {s : Shared} {h₀ : Heap} {L D : Addr} {m : Names} {news : Ledger} {Q : Value → Shared → Prop} {t u : Tok} {r : Array UInt8} {T : Nat} {value slice : PySem.Expr}
theorem law_bytes {ys : List Value} {ps : List Nat} {B G : List Int} {inv : Inv ps B G} (F : Fr h₀ L s.heap m) (N : News h₀ L s.heap news) (hm : (D, LCg.lst ys) ∈ news) (hi : IntsAre ys (([8, 4, 0] : List Int).map (letF inv))) (low : LowB B 12) (hps : PsOk ps) (hh : A.handled = none)
    (h : ∀ h' t k, Fr h₀ L h' m → News h₀ L h' news → Q (.bytes (lettersOf ps.sum).toArray t) { s with heap := h', toks := k }) : wpAny (model prog w) A (call (.type "bytes") [.ref D]) Q E s := by
  have hT := ports_total hps
  rw [lets_are inv low hps] at hi
  refine bytes_K F N (News.isList N hm) hi ?_ ?_ hh fun h' t k F' N' _ => ?_
  · intro n hn
    simp only [List.mem_cons, List.not_mem_nil, or_false] at hn
    omega
  · rw [hi.length, sizeLine_eq]; exact (by decide : 3 ≤ 16777216)
  · have := h h' t k F' N'
    unfold lettersOf at this
    have e : ∀ n : Nat, n < 4096 → (65 + (n : Int)).toNat.toUInt8 = UInt8.ofNat (65 + n) := fun n _ => by
      rw [show (65 + (n : Int)).toNat = 65 + n by omega]
    simp only [List.map_cons, List.map_nil]
    rw [e _ (by omega), e _ (by omega), e _ (by omega)]
    exact this
theorem word_cut (hF : Fr h₀ L s.heap m) (hN : News h₀ L s.heap news) (hr : r.toList = ap16 T) (hT : T < 4096)
    (h : ∀ h' t' k c, Fr h₀ L h' m → News h₀ L h' news → (c.toList == [(65 : UInt8)]) = false → Q (.bytes c t') { s with heap := h', toks := k })
    (hs : subscripted slice false (.bytes r t) (.ref s.heap.objs.size) = operate [.ref s.heap.objs.size, .bytes r t] (getItem (.bytes r t) (.ref s.heap.objs.size)) := by with_unfolding_all rfl)
    (ht : ∀ q, letTemporaryGo value (.bytes r t) q = pure () := by intro _; with_unfolding_all rfl) :
    wpAny (model prog w) A (subscriptTail value slice (.bytes r t) (.ref s.heap.objs.size)) Q E { s with heap := s.heap.push { cls := .type "slice", data := .fields #[.none, .int 1 u, .none] } } := by
  refine KBc.slice_K hF hN rfl .none (.int _ _) ?_ (fun h' t' k F N e => h h' t' k _ F N ?_) hs ht
  · have := ap16_len 3 T hT
    rw [KBw.ints_length, size_ap hr]; omega
  · rw [beq_eq_false_iff_ne]
    intro hc
    have hb : KBw.bInts (KBy.picked r none (some 1)) = [65] := by unfold KBw.bInts; rw [hc]; rfl
    rw [hb] at e
    cases hw : r.toList with
    | nil =>
      have : KBw.bInts r = [] := by unfold KBw.bInts; rw [hw]; rfl
      rw [this] at e; simp at e
    | cons x l =>
      have : KBw.bInts r = ((x.toNat : Nat) : Int) :: l.map (fun c => ((c.toNat : Nat) : Int)) := by unfold KBw.bInts; rw [hw]; rfl
      rw [this] at e
      have e2 := congrArg List.head? e
      simp only [Option.elim, List.drop_zero] at e2
      have hx : x = 65 := by
        cases hn : (clipAt (((x.toNat : Nat) : Int) :: l.map (fun c => ((c.toNat : Nat) : Int))).length 1 - 0) with
        | zero => rw [hn] at e2; cases e2
        | succ n =>
          rw [hn] at e2
          simp at e2
          exact UInt8.toNat_inj.mp (by have : (65 : UInt8).toNat = 65 := rfl; omega)
      rw [hx, hr] at hw
      exact ap_head hT _ hw
theorem word_eq {c : Array UInt8} (hc : (c.toList == [(65 : UInt8)]) = false) (h : Q (.bool false) s) : wpAny (model prog w) A (compareOp .Eq (.bytes c t) (.bytes #[65] u)) Q E s := by
  refine eq_bytes ?_
  show Q (.bool (c.toList == [(65 : UInt8)])) s
  rw [hc]; exact h
theorem word_mul (hr : r.toList = ap16 T) (hT : T < 4096) (h : ∀ t' k, Q (.bytes ((List.replicate ((3 : Int) - ((r.size : Nat) : Int)).toNat [(65 : UInt8)]).flatten).toArray t') { s with toks := k }) :
    wpAny (model prog w) A (binaryOp .Mult (.bytes #[65] t) (.int (3 - ((r.size : Nat) : Int)) u)) Q E s := by
  have := ap16_len 3 T hT
  have e := size_ap hr
  exact bytes_mul_any (b := [65]) (by simp) (by omega) (by omega) (by simp) h
theorem word_add (hr : r.toList = ap16 T) (hT : T < 4096) (h : ∀ t' k, Q (.bytes (((List.replicate ((3 : Int) - ((r.size : Nat) : Int)).toNat [(65 : UInt8)]).flatten).toArray ++ r) t') { s with toks := k }) :
    wpAny (model prog w) A (binaryOp .Add (.bytes ((List.replicate ((3 : Int) - ((r.size : Nat) : Int)).toNat [(65 : UInt8)]).flatten).toArray t) (.bytes r u)) Q E s := by
  have := ap16_len 3 T hT
  have e := size_ap hr
  refine KBy.add_bytes ?_ h
  simp
  omega
theorem word_ne (hr : r.toList = ap16 T) (hT : T < 4096) (h : Q (.bool false) s) :
    wpAny (model prog w) A (compareOp .NotEq (.bytes (((List.replicate ((3 : Int) - ((r.size : Nat) : Int)).toNat [(65 : UInt8)]).flatten).toArray ++ r) t) (.bytes (lettersOf T).toArray u)) Q E s := by
  refine ne_bytes ?_
  have e : (((List.replicate ((3 : Int) - ((r.size : Nat) : Int)).toNat [(65 : UInt8)]).flatten).toArray ++ r).toList = (lettersOf T).toArray.toList := by
    rw [Array.toList_append, hr, size_ap hr]
    exact ap_pad hT
  rw [e, bne_self_eq_false]; exact h
end
theorem c_ap2 {w mean mg mb} {news : Ledger} (T : Nat) (tk : Tok) : CClaim w mean mg mb 2 89 news (fun _ => T < 4096) [.int (-((T : Nat) : Int)) tk]
   (fun h₀ L m s Q _ => ∀ (r : Array UInt8) (t : Tok) (h' : Heap) (tk' : Nat), r.toList = ap16 T → Fr h₀ L h' m → News h₀ L h' news → Q (.bytes r t) { s with heap := h', toks := tk' }) := by
  intro dp un gd cn cs a ccd cl outer A₀ base h₀ L m s Q E B F X N hT hk hx hd9 hu9 hret
  have e : (-((T : Nat) : Int)).natAbs = T := by omega
  refine c_int2ap _ tk dp un gd cn cs a ccd cl outer A₀ base h₀ L m s Q E B F X N hT hk (by rw [e]; omega) hd9 hu9 fun r t h' tk' hr F' N' => ?_
  rw [e] at hr
  exact hret r t h' tk' hr F' N'
theorem box_item {prog : Program} {w : World} {A : Around} {E : Value → Shared → Prop} {s : Shared} {h₀ : Heap} {L D : Addr} {news : Ledger} {Q : Value → Shared → Prop} {vb : List Value} {nb : Nat} {ps : List Nat} {B G : List Int} {k : Int} {u : Tok} {value slice : PySem.Expr}
    (N : News h₀ L s.heap news) (hm : (D, listOf (List.toArray vb) nb) ∈ news) (hi : IntsAre vb B) (inv : Inv ps B G) (h0 : 0 ≤ k) (h1 : k < 13) (h : ∀ t, Q (.int (B.getD k.toNat 0) t) s)
    (hs : subscripted slice false (.ref D) (.int k u) = operate [.ref D, .int k u] (getItem (.ref D) (.int k u)) := by with_unfolding_all rfl) : wpAny (model prog w) A (subscriptTail value slice (.ref D) (.int k u)) Q E s :=
  item_made (News.isList N hm) hi h0 (by rw [inv.lB]; exact h1) (Int.lt_trans h1 (by decide)) h hs
end Mine
end
section
open PySem PySem.W PySem.Spec PySem.Calls PyProof.Rows
set_option maxRecDepth 100000
namespace Mine
/-! the list of refusals -/
noncomputable def ResV (i : Nat) (y : Value) : Prop := ∃ t, y = .int (resOf (1 + (i : Int))) t
theorem res_ints {ys : List Value} (hl : ys.length = 9) (hy : ∀ (i : Nat) y, ys[i]? = some y → ResV i y) : IntsAre ys [1, 2, 2, 2, 2, 2, 2, 2, 3] := by
  have key : ∀ (n : Nat) (ys : List Value) (k : Nat), ys.length = n → (∀ (i : Nat) y, ys[i]? = some y → ResV (k + i) y) → IntsAre ys ((List.range n).map fun i => resOf (1 + ((k + i : Nat) : Int))) := by
    intro n
    induction n with
    | zero => intro ys k h _; rw [List.length_eq_zero_iff.mp h]; exact .nil
    | succ n ih =>
      intro ys k h hy
      cases ys with
      | nil => cases h
      | cons y r =>
        obtain ⟨t, e⟩ := hy 0 y rfl
        have hr := ih r (k + 1) (by simpa using h) fun i z hz => by
          have := hy (i + 1) z (by simpa using hz)
          rwa [show k + (i + 1) = k + 1 + i by omega] at this
        rw [List.range_succ_eq_map, List.map_cons, List.map_map, e]
        refine .cons _ _ ?_
        have e2 : ((fun i => resOf (1 + ((k + i : Nat) : Int))) ∘ Nat.succ) = fun i => resOf (1 + ((k + 1 + i : Nat) : Int)) := by
          funext i; show resOf _ = resOf _; congr 2; omega
        rw [e2]; exact hr
  have := key 9 ys 0 hl fun i y h => by rw [Nat.zero_add]; exact hy i y h
  exact this
theorem get_ok {C : List Int} {k : Int} (hC : CsOk C) (hl : C.length = 5) : 0 ≤ C.getD (k.fmod 4).toNat 0 ∧ C.getD (k.fmod 4).toNat 0 < 100000000 := by
  have h0 : 0 ≤ k.fmod 4 := Int.fmod_nonneg_of_pos _ (by decide)
  have h1 : k.fmod 4 < 4 := Int.fmod_lt_of_pos _ (by decide)
  have hlt : (k.fmod 4).toNat < C.length := by omega
  rw [List.getD_eq_getElem?_getD, List.getElem?_eq_getElem hlt]
  exact hC _ (List.getElem_mem hlt)
theorem form_pre {C : List Int} {k : Int} {i : Nat} (hC : CsOk C) (hl : C.length = 5) (hi : i < 9) : 0 ≤ C.getD (k.fmod 4).toNat 0 ∧ C.getD (k.fmod 4).toNat 0 < 100000000 ∧ 0 ≤ 1 + (i : Int) ∧ 1 + (i : Int) < 10 :=
  ⟨(get_ok hC hl).1, (get_ok hC hl).2, by omega, by omega⟩
section
variable {prog : Program} {w : World} {A : Around} {E : Value → Shared → Prop} {s : Shared} {h₀ : Heap} {L D a b : Addr} {news : Ledger} {Q : Value → Shared → Prop} {vb xs ys : List Value} {nb na : Nat} {C ns : List Int} {k : Int} {u : Tok} {value slice : PySem.Expr}
theorem cell_item (N : News h₀ L s.heap news) (hm : (D, listOf (List.toArray vb) nb) ∈ news) (hi : IntsAre vb C) (hl : C.length = 5) (h : ∀ t, Q (.int (C.getD (k.fmod 4).toNat 0) t) s)
    (hs : subscripted slice false (.ref D) (.int (k.fmod 4) u) = operate [.ref D, .int (k.fmod 4) u] (getItem (.ref D) (.int (k.fmod 4) u)) := by with_unfolding_all rfl) : wpAny (model prog w) A (subscriptTail value slice (.ref D) (.int (k.fmod 4) u)) Q E s := by
  have h1 : k.fmod 4 < 4 := Int.fmod_lt_of_pos _ (by decide)
  exact item_made (News.isList N hm) hi (fm_nn (by decide)) (by rw [hl]; exact Int.lt_trans h1 (by decide)) (Int.lt_trans h1 (by decide)) h hs
theorem res_eq (N : News h₀ L s.heap news) (ha : (a, listOf (List.toArray xs) na) ∈ news) (hb : (b, listOf (List.toArray ys) nb) ∈ news) (hi : IntsAre xs ns) (hj : IntsAre ys ns) (hu : A.units + 64 < cLine) (h : Q (.bool true) s) : wpAny (model prog w) A (compareOp .Eq (.ref a) (.ref b)) Q E s := by
  refine ke_eq_ints (News.isList N ha) (News.isList N hb) hi hj hu ?_
  rw [decide_eq_true rfl]; exact h
end
theorem src_c {prog : Program} {w : World} {A : Around} {s₁ : Shared} {h₀ : Heap} {L r : Addr} {m : Names} {env : Env} {elt : PySem.Expr} {x : PySem.Str} {scope : Scope} {cl : List (PySem.Str × Addr)} {Q : Value → Shared → Prop} {fix1 all : Ledger} {t u v : Tok}
    (_ : FixIs fix1) (hh : A.handled = none) (F : Fr h₀ L s₁.heap m) (N : News h₀ L s₁.heap all) (mf : ∀ q ∈ fix1, q ∈ all) (hr : IsRange s₁.heap r 1 10 1 t u v)
    (turn : ∀ (i : Nat) (t' : Tok) I oI C oC D m₂ ys h tk (E' : Value → Shared → Prop), i < 9 → LCg.NsObj oC m₂ → m₂ x = some (.int (1 + (i : Int)) t') → Fr h₀ L h m → News h₀ L h ((I, oI) :: (C, oC) :: (D, LCg.lst ys) :: fix1) → LCg.Off3 I C D fix1 → ((@Ne Nat I C) ∧ (@Ne Nat I D) ∧ (@Ne Nat C D)) →
      wpC (model prog w) A (eval elt (compEnvC scope cl C env)) (LCg.CompEnd h₀ L m { s₁ with heap := h, toks := tk } I oI C oC D (LCg.lst ys) (fun _ => True) (fun y news' => REl fix1 (ResV i) y news')) E' { s₁ with heap := h, toks := tk })
    (fin : ∀ D h tk ys, IntsAre ys [1, 2, 2, 2, 2, 2, 2, 2, 3] → Fr h₀ L h m → News h₀ L h ((D, LCg.lst ys) :: fix1) → LCg.Off1 D fix1 → Q (.ref D) { s₁ with heap := h, toks := tk }) : SrcC prog w A h₀ L m env elt x scope cl Q (.ref r) s₁ :=
  ⟨r, 1, 10, t, u, v, 9, fix1, ResV, rfl, hh, F, fun q hq => N q (mf q hq), hr, by decide, by decide, by rw [sizeLine_eq]; decide, turn, fun D h tk ys hl hy F N o => fin D h tk ys (res_ints hl hy) F N o⟩
end Mine
end
section
open PySem PySem.W PySem.Spec PySem.Calls PyProof.Rows
set_option maxRecDepth 100000
set_option maxHeartbeats 0
set_option pp.deepTerms.threshold 6
set_option pp.proofs.threshold 3
namespace Mine
local macro_rules | `(tactic| k_ne) => `(tactic| (refine neN ?_; (try dsimp only); first | assumption | exact Ne.symm (by assumption) | exact Nat.ne_of_gt (by assumption) | exact Nat.ne_of_lt (by assumption)))
local macro_rules | `(tactic| k_lt $h:ident) => `(tactic| (replace $h := allLt_of $h; simp only [AllLt, and_true] at $h:ident; repeat (have l2 := And.left $h; replace $h := And.right $h)))
theorem law_holds : PySem.Challenge.rw_xc0006_01.Holds := by
  refine head (by rfl) (by rfl) (by rfl) ?_
  k_fill
  w_top off
  k_with_none
  k_with "call ref" => (k_here; k_dflt (first | (refine' c_cells _ _ _ _ _ _ _ _ _ _ _ _ _ _ _ _ _ _ _ _ _ _ _ _ _ _ _ _ ?k1w0 ?k2w0 ?k3w0 ?k4w0 ?k5w0 ?kKw0 ?kpw0 ?kdw0 ?kuw0 ?_; (case k1w0 => k_asm); (case k2w0 => k_asm); (case k3w0 => k_asm); (case k4w0 => k_asm); (case k5w0 => k_asm); (case kKw0 => first | exact rfl | assumption); (case kpw0 => exact ⟨by with_reducible assumption, by with_reducible assumption, by with_reducible assumption⟩); (case kdw0 => ktr_room); (case kuw0 => ktr_units); intro D9 us9 C9 h9 tk9 iC9 lC9 bC9 F9 N9 ne9; (repeat (have l2 := And.left ne9; replace ne9 := And.right ne9)); (try dsimp only); (try k_fold)) | (refine' c_reply _ _ _ _ _ _ _ _ _ _ _ _ _ _ _ _ _ _ _ _ _ ?k1w0 ?k2w0 ?k3w0 ?k4w0 ?k5w0 ?kKw0 ?kpw0 ?kdw0 ?kuw0 ?_; (case k1w0 => k_asm); (case k2w0 => k_asm); (case k3w0 => k_asm); (case k4w0 => k_asm); (case k5w0 => k_asm); (case kKw0 => first | exact rfl | assumption); (case kpw0 => first | exact reply_pre (by with_reducible assumption) | exact form_pre (by with_reducible assumption) (by with_reducible assumption) (by with_reducible assumption)); (case kdw0 => ktr_room); (case kuw0 => ktr_units); intro t9 h9 tk9 F9 N9; (try dsimp only); (try k_fold)) | (refine' c_port _ _ _ _ _ _ _ _ _ _ _ _ _ _ _ _ _ _ _ _ _ _ _ _ ?k1w0 ?k2w0 ?k3w0 ?k4w0 ?k5w0 ?kKw0 ?kpw0 ?kdw0 ?kuw0 ?_; (case k1w0 => k_asm); (case k2w0 => k_asm); (case k3w0 => k_asm); (case k4w0 => k_asm); (case k5w0 => k_asm); (case kKw0 => first | exact rfl | assumption); (case kpw0 => exact ⟨by with_reducible assumption, by k_mem⟩); (case kdw0 => ktr_room); (case kuw0 => ktr_units); intro p9 t9 h9 tk9 F9 N9 l1; (try simp only [AllLt, and_true] at l1); (repeat (have l2 := And.left l1; replace l1 := And.right l1)); (try dsimp only); (try k_fold)) | (refine' c_ap2 _ _ _ _ _ _ _ _ _ _ _ _ _ _ _ _ _ _ _ ?k1w0 ?k2w0 ?k3w0 ?k4w0 ?k5w0 ?kKw0 ?kpw0 ?kdw0 ?kuw0 ?_; (case k1w0 => k_asm); (case k2w0 => k_asm); (case k3w0 => k_asm); (case k4w0 => k_asm); (case k5w0 => k_asm); (case kKw0 => first | exact rfl | assumption); (case kpw0 => exact ports_total (by assumption)); (case kdw0 => ktr_room); (case kuw0 => ktr_units); intro r9 t9 h9 tk9 hW9 F9 N9; (try dsimp only); (try k_fold)) | (refine' c_ap _ _ _ _ _ _ _ _ _ _ _ _ _ _ _ _ _ _ _ ?k1w0 ?k2w0 ?k3w0 ?k4w0 ?k5w0 ?kKw0 ?kpw0 ?kdw0 ?kuw0 ?_; (case k1w0 => k_asm); (case k2w0 => k_asm); (case k3w0 => k_asm); (case k4w0 => k_asm); (case k5w0 => k_asm); (case kKw0 => first | exact rfl | assumption); (case kpw0 => exact True.intro); (case kdw0 => ktr_room); (case kuw0 => ktr_units); intro r9 t9 h9 tk9 hW9 F9 N9; (try dsimp only); (try k_fold)) | (refine' c_lay _ _ _ _ _ _ _ _ _ _ _ _ _ _ _ _ _ _ _ _ _ _ _ _ ?k1w0 ?k2w0 ?k3w0 ?k4w0 ?k5w0 ?kKw0 ?kpw0 ?kdw0 ?kuw0 ?_; (case k1w0 => k_asm); (case k2w0 => k_asm); (case k3w0 => k_asm); (case k4w0 => k_asm); (case k5w0 => k_asm); (case kKw0 => first | exact rfl | assumption); (case kpw0 => exact lay_pre (by k_mem) (by with_reducible assumption) (by with_reducible assumption) (by with_reducible assumption) (by with_reducible assumption) (by with_reducible assumption)); (case kdw0 => ktr_room); (case kuw0 => ktr_units); intro D9 us9 h9 tk9 F9 N9 hI9 inv9 len9 l1; (try simp only [AllLt, and_true] at l1); (repeat (have l2 := And.left l1; replace l1 := And.right l1)); (try dsimp only); (try k_fold)) | (refine' c_carry _ _ _ _ _ _ _ _ _ _ _ _ _ _ _ _ _ _ _ _ _ _ _ _ _ _ _ ?k1w0 ?k2w0 ?k3w0 ?k4w0 ?k5w0 ?kKw0 ?kpw0 ?kdw0 ?kuw0 ?_; (case k1w0 => k_asm); (case k2w0 => k_asm); (case k3w0 => k_asm); (case k4w0 => k_asm); (case k5w0 => k_asm); (case kKw0 => first | exact rfl | assumption); (case kpw0 => exact ⟨by k_mem, by k_mem, by with_reducible assumption, by with_reducible assumption, by with_reducible assumption, by with_reducible assumption, by with_reducible assumption, sign_ok _⟩); (case kdw0 => ktr_room); (case kuw0 => ktr_units); intro D9 lb9 lg9 vb9 vg9 h9 tk9 F9 N9 hI9 hG9 inv9 l1 l2 l3 l4 l5; (try simp only [AllLt, and_true] at l1); (repeat (have l2 := And.left l1; replace l1 := And.right l1)); (try simp only [AllLt, and_true] at l4); (try simp only [AllLt, and_true] at l5); (try dsimp only); (try k_fold))))
  k_with "subscriptTail List cons BinOp ref int" => (k_here; k_dflt (refine' item_made ?k1w1 ?k3w1 ?k4w1 ?k5w1 ?k6w1 ?_ ?k7w1; (case k1w1 => exact News.isList (by k_asm) (by k_mem)); (case k3w1 => repeat constructor); (case k4w1 => exact fm_nn (by decide)); (case k5w1 => exact fm_lt (by decide) (Int.le_refl _)); (case k6w1 => exact fm_lt (by decide) (by decide)); (case k7w1 => with_unfolding_all rfl)); intro _; (try dsimp only))
  k_with "CompEnd" => (plain_pass; (first | refine' end_kcf ?Fw2 ?Nw2 ?subw2 ?offw2 ?Sw2 | refine' end_rel ?Fw2 ?Nw2 ?subw2 ?offw2 ?Sw2 mod12_ok); (case Fw2 => k_asm); (case Nw2 => k_asm); (case subw2 => first | kcf_all); (case offw2 => first | assumption | (simp only [LCg.Off3, and_true]; done) | (simp only [LCg.Off3, and_true]; assumption)); (case Sw2 => first | lcg_src | assumption))
  k_with "eval ListComp" => (k_here; k_dflt (refine LCg.ListComp_U (F₀ := by k_asm) (by with_unfolding_all rfl) (by decide) (by rfl) (by decide) (by rfl) ?_))
  k_with "subscriptTail Name BinOp ref int" => (k_here; k_dflt (refine' cell_item ?k1w4 ?k2w4 ?k3w4 ?k4w4 ?_ ?k7w4; (case k1w4 => k_asm); (case k2w4 => k_mem); (case k3w4 => with_reducible assumption); (case k4w4 => with_reducible assumption); (case k7w4 => with_unfolding_all rfl)); intro _; (try dsimp only))
  k_with "subscriptTail Name BinOp ref int" => (k_here; k_dflt (refine' box_item ?k1w5 ?k2w5 ?k3w5 ?k4w5 ?k5w5 ?k6w5 ?_ ?k7w5; (case k1w5 => k_asm); (case k2w5 => k_mem); (case k3w5 => with_reducible assumption); (case k4w5 => with_reducible assumption); (case k5w5 => omega); (case k6w5 => omega); (case k7w5 => with_unfolding_all rfl)); intro _; (try dsimp only))
  k_with "subscriptTail Name Name ref int" => (k_here; k_dflt (refine' box_item ?k1w6 ?k2w6 ?k3w6 ?k4w6 ?k5w6 ?k6w6 ?_ ?k7w6; (case k1w6 => k_asm); (case k2w6 => k_mem); (case k3w6 => with_reducible assumption); (case k4w6 => with_reducible assumption); (case k5w6 => omega); (case k6w6 => omega); (case k7w6 => with_unfolding_all rfl)); intro _; (try dsimp only))
  k_with "call type:bytes" => (k_here; k_dflt (refine' law_bytes ?Fw7 ?Nw7 ?hmw7 ?hiw7 ?hlw7 ?hpw7 ?hhw7 ?_; (case Fw7 => k_asm); (case Nw7 => k_asm); (case hmw7 => k_mem); (case hiw7 => with_reducible assumption); (case hlw7 => with_reducible assumption); (case hpw7 => with_reducible assumption); (case hhw7 => exact rfl)); intro h' t' k' F' N'; (try dsimp only))
  k_with "subscriptTail" => (k_here; (with_reducible show wpAny _ _ (subscriptTail _ (Expr.Slice _ _ none _) (Value.bytes _ _) (Value.ref _)) _ _ _); (with_reducible rename Fr _ _ _ _ => F'); (with_reducible rename News _ _ _ _ => N'); (refine word_cut (s := ⟨_, _, _, _, _⟩) F' N' (by with_reducible assumption) (ports_total (by with_reducible assumption)) ?_); intro h' t' k' c' F' N' hc'; (try dsimp only))
  k_with "compareOp Eq bytes bytes" => (k_here; (refine word_eq (by with_reducible assumption) ?_); (try dsimp only))
  k_with "compareOp NotEq bytes bytes" => (k_here; (refine word_ne (by with_reducible assumption) (ports_total (by with_reducible assumption)) ?_); (try dsimp only))
  k_with "binaryOp Mult bytes int" => (k_here; (refine word_mul (by with_reducible assumption) (ports_total (by with_reducible assumption)) ?_); intro _ _; (try dsimp only))
  k_with "binaryOp Add bytes bytes" => (k_here; (refine word_add (by with_reducible assumption) (ports_total (by with_reducible assumption)) ?_); intro _ _; (try dsimp only))
  k_with "call builtin:len" => (k_here; (refine ap_len_call (by with_reducible assumption) (ports_total (by with_reducible assumption)) ?_); intro _ _; (try dsimp only))
  k_with "subscriptTail Name Name ref int" => (k_here; k_dflt (refine' item_made ?k1w14 ?k3w14 ?k4w14 ?k5w14 ?k6w14 ?_ ?k7w14; (case k1w14 => exact News.isList (by k_asm) (by k_mem)); (case k3w14 => with_reducible assumption); (case k4w14 => exact And.left (by assumption : Idx _ _)); (case k5w14 => exact idx_lt (by assumption) (by assumption)); (case k6w14 => exact Idx.fit (by assumption) rfl); (case k7w14 => with_unfolding_all rfl)); intro _; (try dsimp only))
  k_with "CompSrc" => (k_here; k_dflt (first | (refine LCg.CompSrc.range (n := 12) (by rfl) (by k_asm) (by k_asm) (by assumption) (by decide) (by decide) (by exact Nat.le_of_ble_eq_true rfl) ?_; intro g'; (refine' rest_upto (fun _ => Mod12) ?wdTw15 ?wdFw15); (case' wdTw15 => (intro k' t' I' oI' C' oC' D' m' ys' h' tk' E' hk' hC' hx' F' N' off' ne'; (simp only [LCg.Off3, and_true] at off'))); (case' wdFw15 => (intro ys' hl' hr'; obtain ⟨ns', hI', hb'⟩ := mod12_ints hr'; have hl2' := hI'.length.symm.trans hl'; clear hr'))) | (refine LCg.CompSrc.ledger (by rfl) (by k_asm) (by k_asm) (by k_mem) (take_sz (by with_reducible assumption)) ?_; intro g'; (refine' kcf_list (modF (by assumption)) (by with_reducible assumption) (fun k' t' I' oI' C' oC' D' m' ys' h' tk' E' hk' hC' hx' F' N' off' ne' hMark' => ?_) ?_); (all_goals (try (simp only [LCg.Off3, and_true] at off')))) | (refine LCg.CompSrc.ledger (its := #[.int 8 _, .int 4 _, .int 0 _]) (by rfl) (by k_asm) (by k_asm) (by k_mem) (by rw [sizeLine_eq]; exact (by decide : 3 ≤ 16777216)) ?_; intro g'; (refine' kcf_list (vs := [.int 8 _, .int 4 _, .int 0 _]) (letF (by assumption)) (by repeat constructor) (fun k' t' I' oI' C' oC' D' m' ys' h' tk' E' hk' hC' hx' F' N' off' ne' hMark' => ?_) ?_); (all_goals (try (have hk2' := let_idx hk'))); (all_goals (try (simp only [LCg.Off3, and_true] at off'))))))
  k_with "binaryOp Mult int int" => (k_here; (refine law_mul (by first | with_reducible assumption | exact inv_idx (by with_reducible assumption) (by with_reducible assumption)) ?_); intro _ _; (try dsimp only))
  k_with "call type:list" => (k_here; k_dflt (refine' law_range ?k0w17 ?k1w17 ?k2w17 ?k3w17 ?_; (case k0w17 => rfl); (case k1w17 => k_asm); (case k2w17 => k_asm); (case k3w17 => assumption)); intro D' us' c' h' tk' F' N' l1 hI'; (try k_lt l1); (try k_sweep); (try dsimp only))
  k_with "binaryOp Add ref ref" => (k_here; k_dflt (refine' law_add ?Fw18 ?Nw18 ?haw18 ?hbw18 ?hiw18 ?hjw18 ?hlw18 ?_; (case Fw18 => k_asm); (case Nw18 => k_asm); (case haw18 => k_mem); (case hbw18 => k_mem); (case hiw18 => with_reducible assumption); (case hjw18 => with_reducible assumption); (case hlw18 => with_reducible assumption)); intro D' ws' h' F' N' l1 hI'; (try k_lt l1); (try k_sweep); (try dsimp only))
  k_with "exec For Name Subscript cons nil" => (k_here; k_dflt (refine For_at ?_))
  k_with "exec For Name List cons nil" => (k_here; k_dflt (refine For_at ?_))
  k_with "exec For Name BinOp cons nil" => (k_here; k_dflt (refine For_at ?_))
  k_with "exec For Name Call cons nil" => (k_here; k_dflt (refine For_at ?_))
  k_with "call type:str" => (k_here; (refine law_str (fm_nn (by decide)) (fm_lt (by decide) (by decide)) ?_); intro _ _; (try dsimp only))
  k_with "compareOp NotEq str str" => (k_here; (refine ne_same ?_); (try dsimp only))
  k_with "compareOp NotEq ref ref" => (k_here; k_dflt (refine' tup_ne ?Nw25 ?aw25 ?bw25 ?yw25 ?uw25 ?_; (case Nw25 => k_asm); (case aw25 => k_mem); (case bw25 => k_mem); (case yw25 => exact host_ok _); (case uw25 => ktr_units)); (try dsimp only))
  k_with "compareOp Eq ref ref" => (k_here; k_dflt (refine' res_eq ?Nw26 ?aw26 ?bw26 ?iw26 ?jw26 ?uw26 ?_; (case Nw26 => k_asm); (case aw26 => k_mem); (case bw26 => k_mem); (case iw26 => with_reducible assumption); (case jw26 => repeat constructor); (case uw26 => ktr_units)); (try dsimp only))
  k_with "compareOp Eq ref ref" => (k_here; k_dflt (refine' eq_nil ?Nw27 ?aw27 ?bw27 ?iw27 ?ww27 ?lw27 ?uw27 ?_; (case Nw27 => k_asm); (case aw27 => k_mem); (case bw27 => k_mem); (case iw27 => with_reducible assumption); (case ww27 => exact rfl); (case lw27 => with_reducible assumption); (case uw27 => ktr_units)); (try dsimp only))
  k_with "binaryOp Mod int int" => (k_here; (with_reducible refine mod_int' ?kb1w28 ?_); (case kb1w28 => decide); (try dsimp only))
  intro w s₀ s₁ mg mb G Y fa o pm cd doc dV kV ho hd' hcd hD hmg hg args vals as hpre hlay hrd hwl hlo
  have KX : (hd.heap_39 w.params).In s₁.heap := Y
  have X := (Ground.X G).1
  have V := (Ground.X G).2
  refine Ground.open G ?_
  intro T B D TE TW
  obtain ⟨_, _, M⟩ := bmod_of_top T
  have TA := at_of_top T
  have hfa : fa = 142 := by
    have e := (mg_of KX T.g (show nsIn (hd.heap_39 w.params) mainGlobals (PySem.Str.ofString "law") = some (some (Value.ref 142)) by k_is)).symm.trans hmg
    injection e with e
    injection e with e
    exact e.symm
  clear hmg ho hd' hcd hD
  subst hfa
  wrow_args hpre hlay hrd hwl hlo
  have K0 : Below callerA s₁.heap [] s₁.heap := below_caller (Top.heap T)
  refine c_call ?_
  refine' code_lawK KX T.nolimit ?ho ?hcd ?hroom ?hb ?hkd ?hnd ?go ?g1 ?g2 ?g3
  case ho => k_is
  case hcd => k_is
  case hroom => decide
  case hb => exact BindsTo.of_eq rfl
  case hkd => exact rfl
  case hnd => decide
  case g1 => exact rfl
  case g2 => exact rfl
  case g3 => exact rfl
  intro h₁ tk₁ cells F N C
  have hY := PyProof.Rows.CellsAre.four C
  obtain ⟨o1, o2, o3, o4, hE, d1, d2, d3, d4⟩ := hY
  subst hE
  clear C
  have h63 := h63_of (by assumption)
  refine gen_post (fun s' => ∃ h' tk, s' = { s₁ with heap := h', toks := tk } ∧ ∀ b o, s₁.heap.get? b = some o → h'.get? b = some o) ?walk ?hE ?hQ
  case hE => passes_own
  case hQ =>
    rintro s' ⟨h', tk, rfl, hk⟩
    exact good_end hk (fun _ => rfl) (by first | rfl | wrow_post) (by assumption)
  case walk =>
    intro Qr Er hEr hQr
    refine c_execs_append (l₁ := [_, _, _, _, _, _, _, _, _, _]) (l₂ := [_]) ?_
    k_steps
    (try (rename ((13 : Int) < 0 → _) => z9; clear z9))
    (try (rename ((0 : Int) ≤ 13 → _) => z9; clear z9))
    (try (rename ((12 : Int) < 0 → _) => z9; clear z9))
    (try (rename ((0 : Int) ≤ 12 → _) => z9; clear z9))
    (try (rename (List.length (List.take _ _) = min _ _) => z9; clear z9))
    with_reducible rename Fr _ _ _ _ => F1
    with_reducible rename News _ _ _ _ => N1
    refine' law_main ?hE ?hh F1 (news_law N1) (List.Mem.head _) ?hI ?hC ?hl ?iB ?iG ?inv ?dK ?dB ?n1 ?n2 ?n3 ?ap ?turn ?fin
    case hE => exact hEr
    case hh => exact rfl
    case hI => assumption
    case hC => assumption
    case hl => assumption
    case iB => assumption
    case iG => assumption
    case inv => exact Inv.start'
    case dK => exact d2
    case dB => assumption
    case n1 => exact rfl
    case n2 => exact rfl
    case n3 => exact rfl
    case ap => exact ⟨ltN (by omega), ltN (by omega), ltN (by omega), ltN (by omega)⟩
    case fin =>
      clear F1 N1
      intro h tk m₁ lb vb nb lg vg ng oK vk oB B G tt iB iG hps inv dK dB F' N' a1 FX
      have b1 := apN a1
      have b11 := b1.1
      have b12 := b1.2.1
      have b13 := b1.2.2.1
      have b14 := b1.2.2.2
      have b15 := Nat.lt_of_succ_lt b1.1
      have b16 := Nat.lt_of_succ_lt b1.2.2.1
      k_steps
      rename IntsAre _ (_ ++ rangeKs _ _) => hK9
      rename List.length _ = 12 => lK9
      with_reducible rename Fr _ _ _ _ => F2
      with_reducible rename News _ _ _ _ => N2
      refine' law_carry2 (X := s₁.heap.objs.size + 1 + 1 + 1) (cK := s₁.heap.objs.size + 1 + 1 + 1) (cB := s₁.heap.objs.size + 1 + 1) (fx_pick FX) (fun i B => LowB B (i - 12)) (sweep_low lK9) ?hE ?hh F2 N2 ?m1 ?m2 ?m3 ?m4 ?m5 ?mf hK9 ?hk iB iG inv low_start dK dB ?n1 ?n2 ?n3 (apK a1) ?turnB ?finB
      case hE => exact hEr
      case hh => exact rfl
      case n1 => exact rfl
      case n2 => exact rfl
      case n3 => exact rfl
      case m1 => k_mem
      case m2 => k_mem
      case m3 => k_mem
      case m4 => k_mem
      case m5 => k_mem
      case mf => kcj_all
      case hk => exact sweep_mem (by assumption)
      case turnB =>
        clear F2 N2
        intro k2 t2 I2 it2 h2 tk2 m2 lb2 vb2 nb2 lg2 vg2 ng2 oK2 vk2 oB2 B2 G2 tt2 J2 P2 hJ2 hP2 hk2 iB2 iG2 inv2 dK2 dB2 F' N' c1 c2 c3
        have d1 := apN6 c1
        have d11 := d1.1
        have d12 := d1.2.1
        have d13 := d1.2.2.1
        have d14 := d1.2.2.2.1
        have d15 := Nat.lt_of_succ_lt d1.1
        have d16 := Nat.lt_of_succ_lt d1.2.2.1
        have d2 := apI c2
        (try simp only [AllLt, and_true] at d2)
        have d2x := d2
        (repeat (have l2 := And.left d2x; replace d2x := And.right d2x))
        k_steps
        rename IntsAre _ (carryB _ _) => hI9
        rename IntsAre _ (carryG _ _ _) => hG9
        rename Inv _ (carryB _ _) _ => inv9
        refine' law_turn hJ2 ?F ?N ?sub c2 ?l2 ⟨hI9, hG9, inv9, hP2, ?dK, ?dB, ?n1, ?n2, ?n3, ?ap⟩
        case F => k_asm
        case N => k_asm
        case dB => assumption
        case n1 => exact rfl
        case n2 => exact rfl
        case n3 => exact rfl
        case sub => kcj_all
        case dK => assumption
        case l2 => exact ⟨neN (by omega), neN (by omega)⟩
        case ap => exact ⟨ltN (by omega), ltN (by omega), ltN (by omega), ltN (by omega), neN (by omega), neN (by omega)⟩
      case finB =>
        clear F2 N2
        clear inv iB iG
        intro h2 tk2 m2 lb2 vb2 nb2 lg2 vg2 ng2 oK2 vk2 oB2 B2 G2 tt2 iB2 iG2 inv2 low2 dK2 dB2 F' N' c1 FX2
        have d1 := apN6 c1
        have d11 := d1.1
        have d12 := d1.2.1
        have d13 := d1.2.2.1
        have d14 := d1.2.2.2.1
        have d15 := Nat.lt_of_succ_lt d1.1
        have d16 := Nat.lt_of_succ_lt d1.2.2.1
        rw [sweep_len lK9] at low2
        k_steps
        with_reducible rename Fr _ _ _ _ => F2
        with_reducible rename News _ _ _ _ => N2
        refine' law_check2 (lb := lb2) (lg := lg2) (vb := vb2) (vg := vg2) (nb := nb2) (ng := ng2) (oK := oK2) (oB := oB2) (cK := s₁.heap.objs.size + 1 + 1 + 1) (cB := s₁.heap.objs.size + 1 + 1) FX2 ?hE ?hh F2 N2 ?m1 ?m2 ?m3 ?m4 ?mf dK2 ?hr ?turnC ?finC
        case hE => exact hEr
        case hh => exact rfl
        case m1 => k_mem
        case m2 => k_mem
        case m3 => k_mem
        case m4 => k_mem
        case mf => kcj_all
        case hr => assumption
        case turnC =>
          clear F2 N2
          intro i3 t3 I3 it3 h3 tk3 oK3 vk3 ix dK3 F' N' g3
          have g4 := And.left g3
          have g5 := And.right g3
          (try simp only [AllLt, and_true] at g5)
          have g5x := g5
          (repeat (have l2 := And.left g5x; replace g5x := And.right g5x))
          have ix0 : (0 : Int) ≤ (i3 : Int) := ix.1
          have ix1 : (i3 : Int) < 12 := ix.2
          (try dsimp only)
          k_steps
          all_goals (first
            | exact absurd (by assumption) (pow_nz _)
            | exact absurd (check_eq ix inv2 low2) (by assumption)
            | (refine' check_turn ?F ?N ?sub g3 ?dK; (case F => k_asm); (case N => k_asm); (case sub => kcj_all); (case dK => assumption))
            | fail "a turn is left")
        case finC =>
          clear F2 N2
          intro h3 tk3 oK3 vk3 dK3 F' N'
          (try dsimp only)
          k_steps
          with_reducible rename Fr _ _ _ _ => F2
          with_reducible rename News _ _ _ _ => N2
          refine c_execs_cons (c_Return (c_Compare1 ?_))
          refine ListComp_C F2 (by with_unfolding_all rfl) (by decide) (by rfl) (by decide) (by rfl) ?_
          k_steps
          with_reducible rename Fr _ _ _ _ => F2
          with_reducible rename News _ _ _ _ => N2
          refine' src_c FX2 ?hh F2 N2 ?mf ?hr ?turnD ?finD
          case hh => exact rfl
          case mf => kcj_all
          case hr => assumption
          case turnD =>
            clear F2 N2
            intro i4 t4 I4 oI4 C4 oC4 D4 m4 ys4 h4 tk4 E4 hi4 hC4 hx4 F' N' off4 ne4
            have off5 := off4
            (try simp only [LCg.Off3, and_true] at off4)
            (try dsimp only)
            refine c_Call_Name ?_
            k_steps
            refine c_callK (K := hd.heap_39 w.params) (by k_is) ?_
            k_steps
            k_dflt (refine' c_refs _ _ _ _ _ _ _ _ _ _ _ _ _ _ _ _ _ _ ?k1 ?k2 ?k3 ?k4 ?k5 ?kK ?kp ?kd ?ku ?kR)
            (case k1 => k_asm); (case k2 => k_asm); (case k3 => k_asm); (case k4 => k_asm); (case k5 => k_asm); (case kK => first | exact rfl | assumption); (case kp => omega); (case kd => ktr_room); (case ku => ktr_units)
            intro t9 h9 tk9 F9 N9
            (try dsimp only)
            refine' end_rel F9 N9 ?sub off5 trivial ⟨_, rfl⟩
            case sub => kcj_all
          case finD =>
            clear F2 N2
            intro D4 h4 tk4 ys4 hI4 F' N' off4
            (try simp only [LCg.Off1, and_true] at off4)
            (try dsimp only)
            k_steps
            with_reducible rename Fr _ _ _ _ => F9
            exact hQr _ ⟨_, _, rfl, F9.keep⟩
    case turn =>
      clear F1 N1
      intro c ps t' I it h tk m₁ lb vb nb lg vg ng oK vk oB B G tt J hJ hc hps hps2 iB iG inv dK dB F' N' a1 a2 a3 FX
      have b1 := apN a1
      have b11 := b1.1
      have b12 := b1.2.1
      have b13 := b1.2.2.1
      have b14 := b1.2.2.2
      have b15 := Nat.lt_of_succ_lt b1.1
      have b16 := Nat.lt_of_succ_lt b1.2.2.1
      have b2 := apI a2
      (try simp only [AllLt, and_true] at b2)
      have b2x := b2
      (repeat (have l2 := And.left b2x; replace b2x := And.right b2x))
      k_steps
      rename IntsAre _ (laidB _ _) => hI9
      rename Inv _ (laidB _ _) _ => inv9
      with_reducible rename Fr _ _ _ _ => F2
      with_reducible rename News _ _ _ _ => N2
      refine' law_carry2 (X := I) (cK := s₁.heap.objs.size + 1 + 1 + 1) (cB := s₁.heap.objs.size + 1 + 1) FX (fun _ _ => True) ?hR ?hE ?hh F2 N2 ?m1 ?m2 ?m3 ?m4 ?m5 ?mf ?hI ?hk hI9 iG inv9 trivial dK ?dB ?n1 ?n2 ?n3 ?ap ?turn ?fin
      case hR => exact fun _ _ _ _ _ _ => trivial
      case hE => exact hEr
      case hh => exact rfl
      case dB => assumption
      case n1 => exact rfl
      case n2 => exact rfl
      case n3 => exact rfl
      case m1 => k_mem
      case m2 => k_mem
      case m3 => k_mem
      case m4 => k_mem
      case m5 => k_mem
      case mf => kcj_all
      case hI => repeat constructor
      case hk => exact two_mods
      case ap => exact ⟨ltN (by omega), ltN (by omega), ltN (by omega), ltN (by omega), neN (by omega), neN (by omega)⟩
      case turn =>
        clear F2 N2
        intro k2 t2 I2 it2 h2 tk2 m2 lb2 vb2 nb2 lg2 vg2 ng2 oK2 vk2 oB2 B2 G2 tt2 J2 P2 hJ2 hP2 hk2 iB2 iG2 inv2 dK2 dB2 F' N' c1 c2 c3
        have d1 := apN6 c1
        have d11 := d1.1
        have d12 := d1.2.1
        have d13 := d1.2.2.1
        have d14 := d1.2.2.2.1
        have d15 := Nat.lt_of_succ_lt d1.1
        have d16 := Nat.lt_of_succ_lt d1.2.2.1
        have d2 := apI c2
        (try simp only [AllLt, and_true] at d2)
        have d2x := d2
        (repeat (have l2 := And.left d2x; replace d2x := And.right d2x))
        k_steps
        rename IntsAre _ (carryB _ _) => hI9
        rename IntsAre _ (carryG _ _ _) => hG9
        rename Inv _ (carryB _ _) _ => inv9
        refine' law_turn hJ2 ?F ?N ?sub c2 ?l2 ⟨hI9, hG9, inv9, hP2, ?dK, ?dB, ?n1, ?n2, ?n3, ?ap⟩
        case F => k_asm
        case N => k_asm
        case dB => assumption
        case n1 => exact rfl
        case n2 => exact rfl
        case n3 => exact rfl
        case sub => kcj_all
        case dK => assumption
        case l2 => exact ⟨neN (by omega), neN (by omega)⟩
        case ap => exact ⟨ltN (by omega), ltN (by omega), ltN (by omega), ltN (by omega), neN (by omega), neN (by omega)⟩
      case fin =>
        clear F2 N2
        intro h2 tk2 m2 lb2 vb2 nb2 lg2 vg2 ng2 oK2 vk2 oB2 B2 G2 tt2 iB2 iG2 inv2 _ dK2 dB2 F' N' c1 FX2
        have d1 := apN6 c1
        have d11 := d1.1
        have d12 := d1.2.1
        have d13 := d1.2.2.1
        have d14 := d1.2.2.2.1
        have d15 := Nat.lt_of_succ_lt d1.1
        have d16 := Nat.lt_of_succ_lt d1.2.2.1
        k_steps
        refine' law_turn hJ ?F ?N ?sub a2 ?l2 ⟨iB2, iG2, inv2, trivial, dK2, dB2, ?n1, ?n2, ?n3, ?ap⟩
        case F => k_asm
        case N => k_asm
        case n1 => exact rfl
        case n2 => exact rfl
        case n3 => (rw [← tot_eq]; exact rfl)
        case sub => kcj_all
        case l2 => exact ⟨d1.2.2.2.2.1, d1.2.2.2.2.2⟩
        case ap => exact ⟨d1.1, d1.2.1, d1.2.2.1, d1.2.2.2.1, Nat.ne_of_gt (Nat.lt_of_succ_lt d1.1), Nat.ne_of_gt (Nat.lt_of_succ_lt d1.2.2.1)⟩
end Mine
end
theorem PySem.Challenge.cw_xc0006_01_holds : PySem.Challenge.rw_xc0006_01.Holds :=
  Mine.law_holds

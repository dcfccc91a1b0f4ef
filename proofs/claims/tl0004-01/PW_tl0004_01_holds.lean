import PyProof.Rows.All
import Wide.All
import OpenK.AllK
import Wide.FinOn
import PySem.Challenge.RW_tl0004_01
set_option compiler.extract_closed false

section
open PySem PySem.W PyProof.Rows PySem.Calls PySem.Spec
set_option Elab.async false
set_option maxRecDepth 100000
set_option maxHeartbeats 8000000
namespace Mine

/-- the goal, hidden while facts are taken apart -/
theorem hide {p : Prop} (h : ∀ G : Prop, (p → G) → G) : p := h p id
/-! A logic over the stacks that hold the claim's own caller. -/
def HasC (G : PySem.Ctx) : Prop := (G.code :: G.below.map (·.1)).any Code.isCaller = true
def HasB (G : PySem.Ctx) : Prop := (G.below.map (·.1)).any Code.isCaller = true

def wpC {α : Type} (M : Model) (A : Around) (t : Sem α) (Q : α → Shared → Prop) (E : Value → Shared → Prop) (s : Shared) : Prop :=
  ∀ G p, G.In A → HasC G → Sem.wp M G t (fun a _ s' => Q a s') (fun e _ s' => E e s') p s
def codeC (M : Model) (A : Around) (c : Code) (R : Result → Shared → Prop) (s : Shared) : Prop :=
  ∀ G p, G.code = c → G.Below A → HasB G → wpCode M G R p s

section
variable {α β : Type} {M : Model} {A : Around} {E : Value → Shared → Prop} {s : Shared}

theorem wpC_of {t : Sem α} {Q : α → Shared → Prop} (h : wpAny M A t Q E s) : wpC M A t Q E s := fun G p hG _ => h G p hG
theorem codeC_of {c : Code} {R : Result → Shared → Prop} (h : codeAny M A c R s) : codeC M A c R s := fun G p hc hG _ => h G p hc hG

theorem wpC_mono {t : Sem α} {Q Q' : α → Shared → Prop} {E' : Value → Shared → Prop} (h : wpC M A t Q E s)
    (hQ : ∀ a s, Q a s → Q' a s) (hE : ∀ e s, E e s → E' e s) : wpC M A t Q' E' s :=
  fun G p hG hC => Sem.wp_mono M G t (fun a _ s => hQ a s) (fun e _ s => hE e s) p s (h G p hG hC)
theorem codeC_mono {c : Code} {R R' : Result → Shared → Prop} (h : codeC M A c R s) (hR : ∀ r s, R r s → R' r s) : codeC M A c R' s :=
  fun G p hc hG hC => wpCode_mono hR (h G p hc hG hC)

theorem wpC_bind {m : Sem α} {f : α → Sem β} {Q : β → Shared → Prop} (h : wpC M A m (fun a s' => wpC M A (f a) Q E s') E s) :
    wpC M A (m >>= f) Q E s := fun G p hG hC => by
  rw [Sem.wp_bind']
  exact Sem.wp_mono M G m (fun a p' s' h' => h' G p' hG hC) (fun _ _ _ h' => h') p s (h G p hG hC)
/-- the first part by the plain logic -/
theorem wpC_seq {m : Sem α} {f : α → Sem β} {Q : β → Shared → Prop} (h : wpAny M A m (fun a s' => wpC M A (f a) Q E s') E s) :
    wpC M A (m >>= f) Q E s := wpC_bind (wpC_of h)
theorem wpC_pure {a : α} {Q : α → Shared → Prop} (h : Q a s) : wpC M A (pure a) Q E s := wpC_of (wpAny_pure h)
theorem wpC_holding {vs : List Value} {m : Sem α} {Q : α → Shared → Prop} (h : wpC M A m Q E s) : wpC M A (holding vs m) Q E s :=
  fun G p hG hC => by rw [Sem.wp_holding]; exact h G p hG hC
theorem wpC_onRaise {m : Sem α} {k : Value → Sem Unit} {Q : α → Shared → Prop}
    (h : wpC M A m Q (fun e s' => wpAny M A (k e) (fun _ s'' => E e s'') E s') s) : wpC M A (m.onRaise k) Q E s := fun G p hG hC => by
  rw [Sem.wp_onRaise]
  exact Sem.wp_mono M G m (fun _ _ _ h' => h') (fun e p' s' h' => h' G p' hG) p s (h G p hG hC)
theorem wpC_tryCatch {m : Sem α} {k : Value → Sem α} {Q : α → Shared → Prop} (h : wpC M A m Q (fun e s' => wpAny M A (k e) Q E s') s) :
    wpC M A (tryCatch m k) Q E s := fun G p hG hC => by
  rw [Sem.wp_tryCatch']
  exact Sem.wp_mono M G m (fun _ _ _ h' => h') (fun e p' s' h' => h' G p' hG) p s (h G p hG hC)

theorem hasB_enter {G : PySem.Ctx} (h : HasC G) (c : Code) (hd : Option Value) (p : Pos) : HasB (G.enter c hd p) := h
theorem hasC_of_hasB {G : PySem.Ctx} (h : HasB G) : HasC G := by
  unfold HasC; rw [List.any_cons, show ((G.below.map (·.1)).any Code.isCaller) = true from h, Bool.or_true]

theorem wpC_run {c : Code} {h : Option Value} {Q : Flow → Shared → Prop}
    (hc : codeC M (A.mark h) c (fun r s' => match r with | .ok f => Q f s' | .error e => E e s') s) (hnb : h ≠ some byPass := by intro x; cases x) :
    wpC M A (run c h) Q E s :=
  fun G p hG hC => by rw [Sem.wp_run]; exact hc _ p rfl (hG.enter c h p hnb) (hasB_enter hC c h p)
theorem wpC_runValue {c : Code} {Q : Value → Shared → Prop}
    (hc : codeC M A c (fun r s' => match r with | .ok (.ret v) => Q v s' | .ok _ => False | .error e => E e s') s) :
    wpC M A (runValue c) Q E s := fun G p hG hC => by rw [Sem.wp_runValue]; exact hc _ p rfl (hG.enter c none p (by intro x; cases x)) (hasB_enter hC c none p)
theorem wpC_call {f : Value} {pos : List Value} {kw : List (Str × Value)} {Q : Value → Shared → Prop}
    (hc : codeC M A (.call f ⟨pos, kw⟩) (fun r s' => match r with | .ok (.ret v) => Q v s' | .ok _ => False | .error e => E e s') s) :
    wpC M A (call f pos kw) Q E s := wpC_runValue hc

theorem codeC_of_tree {c : Code} {R : Result → Shared → Prop}
    (h : wpC M (A.under c) (M.den c) (fun fin s' => match fin with | .done f => R (.ok f) s' | .again c' => c'.quiet = true ∧ codeC M A c' R s')
      (fun e s' => R (.error e) s') s) : codeC M A c R s := fun G p hc hG hC => by
  rw [wpCode_iff_wp, hc]
  refine Sem.wp_mono M G _ (fun fin p' s' h' => ?_) (fun _ _ _ h' => h') p s (h G p (hc ▸ hG.in) (hasC_of_hasB hC))
  cases fin with
  | done f => exact h'
  | again c' => exact ⟨h'.1, h'.2 (G.goto c') p' rfl (hG.goto c') hC⟩
end

/-! The head. -/
theorem caller_hasC : HasC ⟨.builtin "claim.caller" {}, none, none, [], none⟩ := rfl
theorem wp_of_wpC_done {M : Model} {t : Sem Fin} {R : Result → Shared → Prop} {s : Shared}
    (h : wpC M callerA t (fun fin s' => ∃ f, fin = .done f ∧ R (.ok f) s') (fun e s' => R (.error e) s') s) (p : Pos) :
    Sem.wp M ⟨.builtin "claim.caller" {}, none, none, [], none⟩ t (Sem.finPost M ⟨.builtin "claim.caller" {}, none, none, [], none⟩ R) (fun e _ s' => R (.error e) s') p s := by
  refine Sem.wp_mono M _ t (fun fin p' s' h' => ?_) (fun _ _ _ h' => h') p s (h _ p caller_in caller_hasC)
  obtain ⟨f, rfl, hf⟩ := h'
  exact hf

abbrev WalkC (q : Program) (loose : List Str) (XP : (Str → Option Value) → Heap → Prop) (YP : World → Heap → Prop) (r : RowW) (d : DefRec) (kwd : List (Str × Expr)) (run : Value → List Value → Sem Value) : Prop :=
  ∀ (w : World) (s₀ s₁ : Shared) (mg mb : Str → Option Value), Ground q loose r.records XP w s₀ mg mb s₁.heap → YP w s₁.heap → ∀ (a : Addr) (o : Obj) (pm cd doc dV kV : Value), s₁.heap.get? a = some o →
    o.data = .func { docDef d.name d.params d.body d.scope pm cd doc with defaults := dV, kwdefaults := kV } → s₁.heap.CodeRec cd d.name → Dflts mg s₁.heap d.params kwd dV kV → mg d.name = some (.ref a) → s₁.gens = #[] →
    ∀ (args : List WData) (vals : List Value) (as : List Addr), r.claim.pre args = true → WData.layableAll args = true → ReadsAllW r.records (classAt s₀.heap) s₁.heap vals args as → WellAll w.params s₁.heap vals args → (∀ a ∈ as, (a == sysModules) = false) →
      wpC (model r.prog w) callerA (run (.ref a) vals) (fun v s' => GoodWG r.claim (classAt s₀.heap) (ExcName.means s₀.heap) args s₁ (.ok (.ret v)) s')
        (fun e s' => GoodWG r.claim (classAt s₀.heap) (ExcName.means s₀.heap) args s₁ (.error e) s') s₁

/-- the thread's end, by the logic above -/
theorem thread_C {prog : Program} {w : World} {t : Sem Fin} {s : Shared} {R : Result → Shared → Prop} (hz : s.asleep)
    (h : wpC (model prog w) callerA t (fun fin s' => ∃ f, fin = .done f ∧ (R (.ok f) s' ∧ AllBare s'.gens)) (fun e s' => R (.error e) s' ∧ AllBare s'.gens) s) :
    ∃ n r s' s'', runN (denote table) prog w n s ⟨t, .builtin "claim.caller" {}, default, []⟩ = .halted (outcomeOf r) s' ∧
      schedN (denote table) prog w n (.single s ⟨t, .builtin "claim.caller" {}, default, []⟩) = .halted (outcomeOf r) s' ∧ s'.forget = s''.forget ∧ R r s'' := by
  have h' := wp_of_wpC_done (R := fun r s' => R r s' ∧ leftWithCleanup s'.gens = false)
    (wpC_mono h (fun fin s' ⟨f, e, a, b⟩ => ⟨f, e, a, leftWithCleanup_false_of_bare b⟩) fun e s' ⟨a, b⟩ => ⟨a, leftWithCleanup_false_of_bare b⟩) default
  obtain ⟨n, r, s₁, s₂, hs, hn, hfo, hR⟩ := wp_halts_full (M := model prog w) (R := R) hz h'
  exact ⟨n, r, s₂, s₁, hn, hs, hfo, hR⟩

def EndR (r : OpenRow) (s s₁ : Shared) (args : List WData) (vs : List Value) (x : Result) (s' : Shared) : Prop :=
  r.toRowW.claim.Ends s args vs s₁ x s' ∧ s'.os = s.os ∧ (r.writes = true → namesKept r.toRowW.claim.prog r.keeps s.heap s'.heap ∧ ∀ x ∈ r.toRowW.claim.records, ∀ a, classAt s.heap x.1 = some a → recordClass s'.heap a x.1 (x.2.map (·.1)) = true)
theorem PySem.W.holds_open {r : OpenRow} {q : Program} {loose : List Str} {Xt : Shared → Bool} {XP : (Str → Option Value) → Heap → Prop} {α : Type} {Yf : Shared → α} {Ya : World → α} {YP : World → Heap → Prop} {d : DefRec} {kwd : List (Str × Expr)} {N : Nat}
    (left : LeftO r.prog q loose Xt Yf Ya N) (hY : ∀ w s, Yf s = Ya w → YP w s.heap) (hYk : ∀ w h h', YP w h → (∀ b o, h.get? b = some o → h'.get? b = some o) → YP w h')
    (hX : ∀ s, Xt s = true → XP (s.heap.nsMap mainGlobals) s.heap) (hXk : ∀ mg h h', XP mg h → (∀ b o, h.get? b = some o → h'.get? b = some o) → XP mg h')
    (hdef : defOf q r.name = some (d, kwd)) (hp : r.prog.theDef r.name = some (d.params, d.body, d.scope)) (hk : kwWritten? d.params.kwonlyargs d.params.kw_defaults = some kwd) (hRf : ∀ s, Xt s = true → RecFacts r.records s.heap) (hwr : (!r.writes || r.records.isEmpty) = true)
    (k1 : r.wellSaid = true) (ok : (chainsOk q && opensWell r.prog && (frees r.toRowW && r.within.isEmpty)) = true) (hb : r.prog.bare) (hw : r.toRowW.promised)
    (call : WalkC q loose XP YP r.toRowW d kwd fun f vs => PySem.call f vs) : r.Holds := by
  refine ⟨k1, hw, ?_⟩
  obtain ⟨ok, k5⟩ := Bool.and_eq_true_iff.mp ok
  obtain ⟨hch, o1⟩ := Bool.and_eq_true_iff.mp ok
  obtain ⟨k5, k6⟩ := Bool.and_eq_true_iff.mp k5
  refine hide fun G9 k9 => ?_
  obtain ⟨hsame, hu, ha, hap, hm⟩ := frees_parts k5
  refine k9 ?_
  clear k9
  have hwi : r.toRowW.claim.within = [] := List.isEmpty_iff.mp k6
  have hi := ident_freeW hu ha hap
  refine ⟨⟨hb, o1, by show r.makers.map _ = []; rw [hm]; rfl⟩, hw.witness, fun w => ?_⟩
  have BH := left.behind (XP := fun mg h => XP mg h ∧ RecFacts r.records h) (fun s hs => ⟨hX s hs, hRf s hs⟩) hch w
  refine ⟨BH.1, fun s' hs' => ?_⟩
  refine hide fun G9 k9 => ?_
  obtain ⟨s₀, hf, hg0, s, hT, hz, hgens, hg, G00, y⟩ := BH.2 s' hs'
  refine k9 ?_
  clear k9
  have RF := G00.X.2
  have G0 : Ground q loose [] XP w s (s.heap.nsMap mainGlobals) (s.heap.nsMap builtinsNs) s.heap := ⟨G00.T, G00.B, G00.D, G00.TE, G00.TD, G00.W, G00.X.1, G00.cls, G00.has, G00.apart, G00.once, G00.K⟩
  have hgens : s.gens = #[] := Array.eq_empty_of_size_eq_zero (beq_iff_eq.mp hgens)
  have G : Ground q loose r.records XP w s _ _ s.heap := RF.ground G0
  refine ⟨s₀, hf, hg0, s, hT, fun n hn => ?_, RF.1, RF.2.1, ?_⟩
  · obtain rfl : n = r.name := by split at hn <;> simp_all
    exact pinned_of_view hg G0 hdef hp hk
  intro args hpre hlay ord hord
  refine hide fun G9 k9 => ?_
  obtain ⟨⟨vs, s₁⟩, hlaid⟩ := Option.isSome_iff_exists.mp (layAllW_isSome (P := w.params) (ord := ord) G.has args r.args s (pre_splitW hpre).1)
  refine k9 ?_
  clear k9
  have keeps := layAllW_keeps _ _ _ hlaid
  have hal := layAllW_rest _ _ _ hlaid
  refine hide fun G9 k9 => ?_
  obtain ⟨as, hrd, hin, hold⟩ := reads_layAllW hord _ _ _ hlaid hlay s₁.heap (fun _ _ e => e)
  refine k9 ?_
  clear k9
  have L : Laid r.records w s s₁ args vs as := ⟨⟨ord, hord, hlaid⟩, hrd, hin, hold, keeps, hal.1.trans hgens, hal.2.2.1⟩
  have G₁ := G.keeps hXk keeps
  refine hide fun G9 k9 => ?_
  obtain ⟨a, o, pm, cd, doc, dV, kV, h1, h2, h3, h4, h5⟩ := G₁.fn hdef
  refine k9 ?_
  clear k9
  have hcall := call w s s₁ _ _ G₁ (hYk _ _ _ (hY w s y) keeps) a o pm cd doc dV kV h2 h3 h4 h5 (defOf_name hdef ▸ h1) L.gens args vs as hpre hlay L.reads L.well (L.low G.low)
  have htree : wpC (model r.prog w) callerA (do match ← nsGet mainNs r.name with
      | some f => do ret (← PySem.call f vs)
      | none => unsupported "claim.caller:no-such-global")
      (fun fin s' => ∃ f, fin = .done f ∧ (EndR r s s₁ args vs (.ok f) s' ∧ AllBare s'.gens))
      (fun e s' => EndR r s s₁ args vs (.error e) s' ∧ AllBare s'.gens) s₁ := by
    refine wpC_seq (wpAny_nsGet G₁.T.g ?_)
    rw [h1]
    refine wpC_bind (wpC_mono hcall (fun v s' g => ?_) fun e s' g => ?_)
    · have z := g.laid (c := r.toRowW.claim) hsame hwi hi L
      exact wpC_pure ⟨_, rfl, ⟨z.1, z.2.1, fun q => ⟨namesKept_of hT hg r.keeps keeps g.2.1.old, noTable hwr q⟩⟩, z.2.2⟩
    · have z := g.laid (c := r.toRowW.claim) hsame hwi hi L
      exact ⟨⟨z.1, z.2.1, fun q => ⟨namesKept_of hT hg r.keeps keeps g.2.1.old, noTable hwr q⟩⟩, z.2.2⟩
  refine hide fun G9 k9 => ?_
  obtain ⟨k, rr, s', s'', hrun, hsched, hfo, hcase, hos, hkp⟩ := thread_C (prog := r.prog) (w := w) (s := s₁)
    (R := EndR r s s₁ args vs)
    (Shared.asleep_of_life hal.2.2.2 hz) htree
  refine k9 ?_
  clear k9
  obtain ⟨eh, _, _, eo, _⟩ := Shared.forget_eq hfo
  have hcase := hcase.congr eh
  rw [← eh] at hkp
  rw [← eo] at hos
  have hlife : s'.heap.life = s.heap.life := (runN_life _ _ _ hrun).trans hal.2.2.2
  refine ⟨vs, s₁, hlaid, k, _, s', hsched, ?_, (fun _ i x hx => by rw [hgens] at hx; simp at hx), hkp, by rw [hlife], Shared.rest_eq hos⟩
  rcases hcase with ⟨v, rfl, d1, d2, d3, d4, d5⟩ | ⟨e, ob, cls, rfl, d1, d2, d3, d4, d5⟩
  · exact .inl ⟨v, rfl, d1, d2, d3, fun b o y _ => d4 b o y, d5⟩
  · exact .inr ⟨e, ob, cls, rfl, d1, d2, d3, d4, fun b o y _ => d5 b o y⟩

end Mine
end

section
open PySem PySem.W PyProof.Rows PySem.Calls PySem.Spec
set_option Elab.async false
set_option maxRecDepth 100000
set_option maxHeartbeats 8000000
namespace Mine

section
variable {M : Model} {A : Around} {E : Value → Shared → Prop} {s : Shared} {env : Env}

theorem C_execs_cons {st rest} {Q : Flow → Shared → Prop}
    (h : wpC M A (exec st env) (fun f s' => match f with | .next => wpC M A (execs rest env) Q E s' | f => Q f s') E s) :
    wpC M A (execs (st :: rest) env) Q E s := by
  rw [execs_cons]
  refine wpC_bind (wpC_mono h (fun f s' h' => ?_) fun _ _ x => x)
  cases f <;> first | exact h' | exact wpC_pure h'
theorem C_execs_seq {st rest} {Q : Flow → Shared → Prop}
    (h : wpAny M A (exec st env) (fun f s' => match f with | .next => wpC M A (execs rest env) Q E s' | f => Q f s') E s) :
    wpC M A (execs (st :: rest) env) Q E s := C_execs_cons (wpC_of h)
/-- a row of plain statements ahead: the rest is hidden behind P while they are walked -/
theorem C_prefix {xs ys : List Stmt} {Q : Flow → Shared → Prop}
    (h : ∀ P : Shared → Prop, (∀ s', wpC M A (execs ys env) Q E s' → P s') → wpAny M A (execs xs env) (fun f s' => f = .next ∧ P s') E s) :
    wpC M A (execs (xs ++ ys) env) Q E s := by
  have h0 := h _ fun _ x => x
  intro G p hG hC
  have h1 := h0 G p hG
  clear h h0
  induction xs generalizing p s with
  | nil => exact h1.2 G p hG hC
  | cons st rest ih =>
    rw [List.cons_append, execs_cons, Sem.wp_bind']
    rw [execs_cons, Sem.wp_bind'] at h1
    refine Sem.wp_mono M G _ (fun f p' s' h' => ?_) (fun _ _ _ x => x) _ _ h1
    cases f with
    | next => exact ih p' h'
    | _ => cases h'.1
theorem C_standAt {α : Type} {pos : Pos} {t : Sem α} {Q : α → Shared → Prop} (h : wpC M A t Q E s) : wpC M A (do standAt pos; t) Q E s :=
  wpC_seq (wpAny_standAt h)
theorem C_isTrue_Compare1 {l op r pos whole} {Q : Bool → Shared → Prop}
    (h : wpC M A (eval l env) (fun a s₁ => wpAny M A (eval r env) (fun b s₂ => wpAny M A (compareOp op a b)
      (fun c s₃ => wpAny M A (truthy c) Q E s₃) E s₂) E s₁) E s)
    (hm : behindInMarks op r = false := by with_unfolding_all rfl) : wpC M A (isTrue (.Compare l [op] [r] pos) env whole) Q E s := fun Γ p hΓ hC => by
  simp only [isTrue_Compare1, markedBehindIn_of_false hm, Sem.wp_bind', Sem.wp_holding, Sem.wp_cmd_standAt, Sem.wp_operate]
  exact Sem.wp_mono M Γ _ (fun a p₁ s₁ h₁ => Sem.wp_mono M Γ _ (fun b _ s₂ h₂ => Sem.wp_mono M Γ _ (fun c p₃ s₃ h₃ => h₃ Γ p₃ hΓ)
    (fun _ _ _ h' => h') _ _ (h₂ Γ _ hΓ)) (fun _ _ _ h' => h') _ _ (h₁ Γ p₁ hΓ)) (fun _ _ _ h' => h') _ _ (h Γ p hΓ hC)
theorem C_isTrue_Or2 {x y : Expr} {pos : Pos} {whole : Sem Value} {Q : Bool → Shared → Prop}
    (h : wpAny M A (isTrue x env (eval x env)) (fun b s₁ => if b then Q true s₁ else
      wpC M A (isTrue y env (eval y env)) Q E s₁) E s) : wpC M A (isTrue (.BoolOp .Or [x, y] pos) env whole) Q E s := by
  rw [arm_isTrue_BoolOp]
  show wpC M A (do match BoolOp.Or, ← isTrue x env (eval x env) with | .And, false => pure false | .Or, true => pure true | _, _ => allTrue .Or [y] env) Q E s
  refine wpC_seq (wpAny_mono h (fun b s₁ h₁ => ?_) fun _ _ x => x)
  cases b
  · show wpC M A (do match BoolOp.Or, ← isTrue y env (eval y env) with | .And, false => pure false | .Or, true => pure true | _, _ => allTrue .Or [] env) Q E s₁
    refine wpC_bind (wpC_mono h₁ (fun c s₂ h₂ => ?_) fun _ _ x => x)
    cases c
    · exact wpC_pure h₂
    · exact wpC_pure h₂
  · exact wpC_pure h₁
theorem C_If {test body orelse pos} {Q : Flow → Shared → Prop}
    (h : wpC M A (isTrue test env (eval test env))
      (fun b s₂ => if b then wpC M A (execs body env) Q E s₂ else wpC M A (execs orelse env) Q E s₂) E s) :
    wpC M A (exec (.If test body orelse pos) env) Q E s := by
  rw [exec_If]
  refine C_standAt (wpC_bind (wpC_mono h (fun b s₂ h₂ => ?_) fun _ _ x => x))
  cases b <;> exact h₂
theorem C_Return {e pos} {Q : Flow → Shared → Prop} (h : wpC M A (eval e env) (fun v => Q (.ret v)) E s) :
    wpC M A (exec (.Return (some e) pos) env) Q E s := by
  rw [exec_Return_some]
  exact C_standAt (wpC_bind (wpC_mono h (fun v s' h' => wpC_pure h') fun _ _ x => x))
theorem C_Assign_Name {x pos' value pos} {Q : Flow → Shared → Prop}
    (h : wpC M A (eval value env) (fun v s₁ => wpAny M A (storeName env x v) (fun _ => Q .next) E s₁) E s)
    (hs : swapsWith value (some (.Name x pos')) pos.line env = pure false := by rfl) :
    wpC M A (exec (.Assign [.Name x pos'] value pos) env) Q E s := by
  rw [exec_Assign_Name env x pos' value pos hs]
  exact C_standAt (wpC_bind (wpC_mono h (fun v s₁ h₁ => C_standAt (wpC_seq (wpAny_bindName (wpAny_mono h₁ (fun _ _ h₂ => wpC_pure h₂) fun _ _ x => x)))) fun _ _ x => x))
theorem C_Call_Name {x : Str} {p pos : Pos} {args : List Expr} {Q : Value → Shared → Prop}
    (h : wpAny M A (eval (.Name x p) env) (fun f s₁ => wpC M A (callWith pos f [] (backTo pos (starEach args env)) []) Q E s₁) E s) :
    wpC M A (eval (.Call (.Name x p) args [] pos) env) Q E s := by
  exact wpC_seq h
theorem C_keep {α : Type} {vs : List Value} {m : Sem α} {Q : α → Shared → Prop} (h : wpC M A m Q E s) : wpC M A (m.keep vs) Q E s :=
  fun Γ p hΓ hC => by rw [Sem.wp_keep]; exact h Γ p hΓ hC
theorem C_callWith_of {P : Heap → Prop} {f : Value} {pos : Pos} {first : List Value} {args : List (Bool × Sem Value)} {keywords : List (Option Str × Sem Value)} {Q : Value → Shared → Prop} (hplain : (args.any (·.1) || keywords.any (·.1.isNone)) = false)
    (hk : ∀ h, P h → ∃ k, (k = Keeper.frame ∨ k = Keeper.machine ∨ k = Keeper.boundFrame) ∧ Looks M h (keeperOf f) k)
    (h : wpAny M A (evalArgs f true args keywords) (fun a s₁ => P s₁.heap ∧ wpC M A (call f (first ++ a.pos) a.kw) Q E s₁) E s) : wpC M A (callWith pos f first args keywords) Q E s := by
  unfold callWith
  refine wpC_bind (wpC_holding (wpC_of (wpAny_mono h (fun a s₁ h₁ => C_standAt ?_) fun _ _ x => x)))
  obtain ⟨k, hk', L⟩ := hk _ h₁.1
  simp only [hplain]
  refine wpC_seq (L.here ?_)
  have tail : ∀ {t : Sem Value}, wpC M A t Q E s₁ → wpC M A (t >>= fun r => holding [r] point >>= fun _ => pure r) Q E s₁ :=
    fun ht => wpC_bind (wpC_mono ht (fun r s₂ hr => wpC_of (wpAny_bind (wpAny_holding (wpAny_point (wpAny_pure hr))))) fun _ _ x => x)
  have marked (mk : Value) : wpC M A (callMarked mk f (first ++ a.pos) a.kw) Q E s₁ := by unfold callMarked; exact C_keep h₁.2
  rcases hk' with rfl | rfl | rfl <;> dsimp only <;> first | exact tail h₁.2 | (split <;> first | exact tail h₁.2 | exact tail (marked _))
theorem C_callWith_K {K : Frag} {f : Value} {pos : Pos} {first : List Value} {e : Expr} {rest : List Expr} {Q : Value → Shared → Prop} (hk : keepIn K f = true) (h : wpAny M A (spliced (backTo pos (starEach (e :: rest) env))) (fun vs s₁ => K.In s₁.heap ∧ wpC M A (call f (first ++ vs)) Q E s₁) E s)
    (he : starEach (e :: rest) env = (false, eval e env) :: starEach rest env := by rfl) (hplain : (backTo pos (starEach rest env)).any (·.1) = false := by rfl) :
    wpC M A (callWith pos f first (backTo pos (starEach (e :: rest) env)) []) Q E s := by
  rw [he] at h ⊢
  exact C_callWith_of (by show ((false || (backTo pos (starEach rest env)).any (·.1)) || false) = false; rw [hplain]; rfl) (keeps_K hk) (Calls.evalArgs_plain h)
theorem keeps_type {T : String} (h : Heap) (_ : True) : ∃ k, (k = Keeper.frame ∨ k = Keeper.machine ∨ k = Keeper.boundFrame) ∧ Looks M h (keeperOf (.type T)) k := ⟨.machine, .inr (.inl rfl), .now⟩
theorem C_callWith_type {T : String} {pos : Pos} {e : Expr} {rest : List Expr} {Q : Value → Shared → Prop} (h : wpAny M A (spliced (backTo pos (starEach (e :: rest) env))) (fun vs s₁ => wpC M A (call (.type T) vs) Q E s₁) E s)
    (he : starEach (e :: rest) env = (false, eval e env) :: starEach rest env := by rfl) (hplain : (backTo pos (starEach rest env)).any (·.1) = false := by rfl) :
    wpC M A (callWith pos (.type T) [] (backTo pos (starEach (e :: rest) env)) []) Q E s := by
  rw [he] at h ⊢
  refine C_callWith_of (P := fun _ => True) (by show ((false || (backTo pos (starEach rest env)).any (·.1)) || false) = false; rw [hplain]; rfl) keeps_type (Calls.evalArgs_plain (wpAny_mono h (fun vs s₁ h₁ => ⟨trivial, h₁⟩) fun _ _ x => x))

theorem C_tryStmt_except {body orelse : Sem Flow} {h₀ : ExceptHandler} {hs : List ExceptHandler} {Q : Flow → Shared → Prop}
    (h : wpC M A body (fun f s₁ => match f with | .next => wpC M A orelse Q E s₁ | f => Q f s₁)
      (fun e s₁ => wpAny M A (noteFrame e env) (fun _ s₂ => wpAny M A (setFlight e none) (fun _ s₃ => wpAny M A (handleBy e env (h₀ :: hs)) Q E s₃) E s₂) E s₁) s) :
    wpC M A (tryStmt false body (h₀ :: hs) orelse [] env) Q E s := by
  unfold tryStmt
  simp only [List.isEmpty_nil, if_true, List.isEmpty_cons, Bool.false_and, Bool.false_eq_true, if_false]
  refine wpC_bind (fun Γ p hG hC => ?_)
  rw [Sem.wp_attempt]
  refine Sem.wp_mono M Γ body (fun f p' s₁ h₁ => ?_) (fun e p' s₁ h₁ => ?_) p s (h Γ p hG hC)
  · cases f <;> first | exact h₁ | exact wpC_pure h₁
  · exact wpC_of (wpAny_bind (wpAny_mono h₁ (fun _ _ h₂ => wpAny_bind h₂) fun _ _ x => x))

theorem C_run_own {c : Code} {h : Option Value} {Q : Flow → Shared → Prop}
    (hc : codeC M (A.mark h) c (fun r s' => match r with | .ok f => Q f s' | .error e => cameBackBy M A env E e s') s) (hnb : h ≠ some byPass := by intro x; cases x) :
    wpC M A (runOwn c env h) Q E s := by
  unfold runOwn
  exact wpC_onRaise (wpC_run hc hnb)
theorem C_For {target iter body orelse pos} {Q : Flow → Shared → Prop}
    (h : wpAny M A (eval iter env) (fun x s₁ => wpAny M A (pyIter x) (fun it s₂ =>
      codeC M A (.forLoop target it body orelse env) (fun r s' => match r with | .ok f => Q f s' | .error e => cameBackBy M A env E e s') s₂) E s₁) E s)
    (hs : ∀ x, foldedSetIterable iter env x = pure x := by intro _; rfl) :
    wpC M A (exec (.For target iter body orelse pos) env) Q E s := by
  rw [exec_For]
  exact C_standAt (wpC_seq (wpAny_mono h (fun x s₁ h₁ => wpC_seq (wpAny_of_eq (hs x) (C_standAt (wpC_seq (wpAny_holding
    (wpAny_mono h₁ (fun it s₂ h₂ => C_run_own h₂) fun _ _ h' => h')))))) fun _ _ h' => h'))
theorem C_loop' {c : Code} {R : Result → Shared → Prop} (hq : c.quiet = true) (I : Nat → Shared → Prop)
    (turn : ∀ n s, I n s → wpC M (A.under c) (M.den c)
      (fun fin s' => match fin with
        | .done f => R (.ok f) s'
        | .again c' => (c' = c ∧ ∃ m, m < n ∧ I m s') ∨ (c'.quiet = true ∧ codeC M A c' R s')) (fun e s' => R (.error e) s') s)
    (n : Nat) (h : I n s) : codeC M A c R s := by
  induction n using Nat.strongRecOn generalizing s with
  | ind n ih =>
    refine codeC_of_tree (wpC_mono (turn n s h) (fun fin s' hf => ?_) fun _ _ h' => h')
    cases fin with
    | done f => exact hf
    | again c' =>
      rcases hf with ⟨rfl, m, hm, hI⟩ | hf
      · exact ⟨hq, ih m hm hI⟩
      · exact hf
end

section
variable {prog : Program} {w : World} {A : Around} {E : Value → Shared → Prop} {R : Result → Shared → Prop} {s : Shared}

theorem C_Try_except {env : Env} {body orelse : List Stmt} {h₀ : ExceptHandler} {hs : List ExceptHandler} {pos : Pos} {Q : Flow → Shared → Prop}
    (h : wpC (model prog w) A (execs body env) (fun f s₁ => match f with | .next => wpC (model prog w) A (execs orelse env) Q E s₁ | f => Q f s₁)
      (fun e s₁ => wpAny (model prog w) A (noteFrame e env) (fun _ s₂ => wpAny (model prog w) A (setFlight e none) (fun _ s₃ => wpAny (model prog w) A (handleBy e env (h₀ :: hs)) Q E s₃) E s₂) E s₁) s) :
    wpC (model prog w) A (exec (.Try body (h₀ :: hs) orelse [] pos) env) Q E s := by
  rw [arm_exec_Try]
  exact C_standAt (C_tryStmt_except h)

theorem C_noted {α : Type} {env : Env} {m : Sem α} {Q : α → Shared → Prop} (h : wpC (model prog w) A m Q (notedBy (model prog w) A env E) s) : wpC (model prog w) A (m.onRaise fun x => do noteFrame x env; theTreesLotGoes x) Q E s :=
  wpC_onRaise (wpC_mono h (fun _ _ q => q) fun _ _ hx => wpAny_bind (wpAny_mono hx (fun _ _ e => wpAny_theTreesLotGoes e) fun _ _ e => e))

/-- the loop with its body in the logic of the claim's stacks -/
theorem C_forLoop {target it body orelse env} (I : Nat → Shared → Prop)
    (turn : ∀ n s, I n s → wpAny (model prog w) A (pyNext it) (fun r s₁ => match r with
      | none => wpAny (model prog w) A (execs orelse env) (fun f s₃ => R (.ok f) s₃) (notedBy (model prog w) A env fun e s' => R (.error e) s') s₁
      | some v => wpAny (model prog w) A (assign target env v) (fun _ s₂ => wpC (model prog w) A (execs body env) (fun f s₃ => match f with
          | .next | .cont => ∃ m, m < n ∧ I m s₃
          | .brk => R (.ok .next) s₃
          | .ret v => R (.ok (.ret v)) s₃) (notedBy (model prog w) A env fun e s' => R (.error e) s') s₂) (notedBy (model prog w) A env fun e s' => R (.error e) s') s₁) (notedBy (model prog w) A env fun e s' => R (.error e) s') s)
    (n : Nat) (h : I n s) (ht : ∀ v, letOwnedTupleGo target it v = pure () := by intro _; rfl) : codeC (model prog w) A (.forLoop target it body orelse env) R s := by
  refine C_loop' rfl I (fun n s hI => ?_) n h
  show wpC _ A ((forTurn target it body orelse env).onRaise (fun x => do noteFrame x env; theTreesLotGoes x)) _ _ s
  refine C_noted ?_
  simp only [forTurn]
  refine C_standAt (wpC_seq (wpAny_onRaise (wpAny_mono (turn n s hI) (fun r s₁ h₁ => ?_) fun _ _ h' => wpAny_standAt h')))
  cases r with
  | none => exact wpC_pure (.inr ⟨rfl, codeC_of (codeAny_block h₁)⟩)
  | some v =>
    refine wpC_seq (wpAny_of_eq (ht v) ?_)
    refine wpC_seq (wpAny_mono h₁ (fun _ s₂ h₂ => wpC_bind (wpC_mono h₂ (fun f s₃ h₃ => ?_) fun _ _ h' => h')) fun _ _ h' => h')
    cases f with
    | next => exact wpC_pure (.inl ⟨rfl, h₃⟩)
    | cont => exact wpC_pure (.inl ⟨rfl, h₃⟩)
    | brk => exact wpC_pure h₃
    | ret v => exact wpC_pure h₃

theorem C_func {body env}
    (h : wpC (model prog w) (A.deeper env) (execs body env) (fun f s' => R (.ok (.ret (match f with | .ret v => v | _ => .none))) s')
      (fun e s' => wpAny (model prog w) (A.deeper env) (leaving env e) (fun _ s'' => R (.error e) s'') (fun e' s'' => R (.error e') s'') s') s) :
    codeC (model prog w) A (.func body env) R s := by
  refine codeC_of_tree ?_
  show wpC _ (A.deeper env) (do point; match ← (execs body env).onRaise (leaving env) with | .ret v => ret v | _ => ret .none) _ _ s
  refine wpC_seq (wpAny_point (wpC_bind (wpC_onRaise (wpC_mono h (fun f s' h' => ?_) fun _ _ h' => h'))))
  cases f <;> exact wpC_pure h'

theorem C_call_function {a : Addr} {args : Args} {o : Obj} {fd : FuncData} {body : List Stmt} (hroom : A.depth < recursionLimit)
    (ho : s.heap.get? a = some o)
    (hd' : o.data = .func fd) (hco : fd.scope.isCoroutine = false) (hgen : fd.scope.isGenerator = false) (hbody : fd.body = .stmts body) (hcd : s.heap.CodeRec fd.code fd.qualname)
    (h : wpAny (model prog w) A.in1 (bindArgs fd args) (fun binds s₁ =>
      wpAny (model prog w) A.in1 (newFunctionEnv fd.scope fd.globals fd.closure binds (fd.qualname ++ ".<locals>.") (some a) fd.code none fd.builtins)
        (fun env s₂ => s₂.heap.NoLimit ∧ codeC (model prog w) A (.func body env) R s₂) (fun e s' => R (.error e) s') s₁) (fun e s' => R (.error e) s') s) :
    codeC (model prog w) A (.call (.ref a) args) R s := by
  refine codeC_of_tree ?_
  show wpC _ A.in1 (callAny (.ref a) args) _ _ s
  simp only [callAny]
  refine wpC_seq (wpAny_load ho ?_)
  obtain ⟨c, oc, vs, tq, hc, hoc, hdc, hq⟩ := hcd
  simp only [hd', callFunction, hco, hgen, hbody, hc]
  rw [hc] at h
  refine wpC_seq (m := field (.ref c) 1) (wpAny_field hoc hdc hq (wpC_seq (wpAny_pure ?_)))
  exact wpC_seq (wpAny_mono h (fun binds s₁ h₁ => wpC_seq (wpAny_mono h₁ (fun env s₂ h₂ => wpC_seq (wpAny_enterFrame h₂.1 hroom
    (wpC_pure (And.intro rfl h₂.2)))) fun _ _ h' => h')) fun _ _ h' => h')

theorem C_call_def {a : Addr} {o : Obj} {fd : FuncData} {body : List Stmt} {args : Args} {binds : List (Str × Value)}
    (hroom : A.depth < recursionLimit) (ho : s.heap.get? a = some o) (hdata : o.data = .func fd) (hlim : s.heap.NoLimit) (hcd : s.heap.CodeRec fd.code fd.qualname)
    (hbody : fd.body = .stmts body) (hbind : BindsTo s fd args binds)
    (hcell : ∀ x ∈ fd.scope.names, x.2 ≠ .cell) (hloc : ∀ x ∈ binds, fd.scope.names.lookup x.1 = some .local)
    (h : ∀ h₀, h₀.Ns s.heap.objs.size (fun x => binds.reverse.lookup x) → (∀ b o, s.heap.get? b = some o → h₀.get? b = some o) →
      wpC (model prog w) (A.deeper (callEnv fd s.heap.objs.size a)) (execs body (callEnv fd s.heap.objs.size a)) (fun f s' => R (.ok (.ret (match f with | .ret v => v | _ => .none))) s')
        (fun e s' => wpAny (model prog w) (A.deeper (callEnv fd s.heap.objs.size a)) (leaving (callEnv fd s.heap.objs.size a) e) (fun _ s'' => R (.error e) s'') (fun e' s'' => R (.error e') s'') s')
        { s with heap := h₀, toks := s.toks + binds.length })
    (hco : fd.scope.isCoroutine = false := by rfl) (hgen : fd.scope.isGenerator = false := by rfl) (hk : fd.scope.kind = .function := by rfl) :
    codeC (model prog w) A (.call (.ref a) args) R s := by
  refine C_call_function hroom ho hdata hco hgen hbody hcd (hbind _ _ _ _ ?_)
  refine wpAny_newFunctionEnv hcell hloc (fun h₀ hns₀ hsb₀ => ⟨hlim.fresh _ hsb₀, C_func (h h₀ hns₀ fun b o e => ?_)⟩) hk
  exact hsb₀.extBut b o (Nat.ne_of_lt (Heap.lt_size e)) (Heap.get?_push_of_some _ e)
end

section
variable {prog : Program} {w : World} {A₀ A : Around} {s : Shared} {base h₀ g₀ : Heap} {outer : List Env} {L a : Addr} {m : Str → Option Value} {cn : Str} {cs : Scope} {ccd : Value} {news : List (Addr × Obj)} {K : Frag} {p : Program} {loose : List Str} {mean : ExcName → Option Value} {mg mb : Str → Option Value}
    {R : Result → Shared → Prop} {name qual : Str} {params : Arguments} {body : List Stmt} {scope : Scope} {dV kV doc pm cdv ct oc : Value} {an od : Option Addr} {osl : Array (Option Value)} {f : Addr} {args : Args} {binds : List (Str × Value)}

theorem C_def {env : Env} (B : Below A₀ base outer h₀) (F : Fr h₀ L s.heap m) (X₀ : K.In h₀) (N : News h₀ L s.heap news) (T : Top p loose mean mg mb h₀) (hA : A.frames = some (env :: outer)) (hf : env.frame = some L) (hke : env.scope.kind = .function)
    (ho : K.lookup f = some ⟨oc, od, .func (fnOf name qual params body scope dV kV doc pm an cdv ct), osl⟩) (hcd : codeIn K cdv qual = true) (hroom : A.depth < recursionLimit)
    (hbind : BindsTo s (fnOf name qual params body scope dV kV doc pm an cdv ct) args binds) (hloc : ∀ y ∈ binds, scope.names.lookup y.1 = some .local)
    (h : ∀ g L' h₁, Fr h₀ L g m → Fr g L' h₁ (fun y => binds.reverse.lookup y) → News g L' h₁ news → Below A base (env :: outer) g → K.In g → Top p loose mean mg mb g →
      wpC (model prog w) (A.deeper (envOf qual scope L' f cdv)) (execs body (envOf qual scope L' f cdv))
        (fun fl s' => LeaveK h₀ L m g R (match fl with | .ret v => v | _ => .none) s')
        (fun e s' => wpAny (model prog w) (A.deeper (envOf qual scope L' f cdv)) (leaving (envOf qual scope L' f cdv) e) (fun _ s'' => R (.error e) s'') (fun e' s'' => R (.error e') s'') s')
        { s with heap := h₁, toks := s.toks + binds.length })
    (hco : scope.isCoroutine = false) (hgen : scope.isGenerator = false) (hk : scope.kind = .function)
    (hcell : ∀ x ∈ scope.names, x.2 ≠ .cell) : codeC (model prog w) A (.call (.ref f) args) R s := by
  obtain ⟨FG, BG, st, lv⟩ := groundX (R := R) B F N hA hf hke
  refine C_call_def (fd := fnOf name qual params body scope dV kV doc pm an cdv ct) (body := body) (binds := binds) hroom ((X₀.keeps F.keep) _ _ ho) rfl (T.nolimit.keeps F.keep) (codeRec_of (X₀.keeps F.keep) hcd) rfl hbind hcell hloc (fun h₁ hns hk₁ => ?_) hco hgen hk
  exact wpC_mono (h _ s.heap.objs.size h₁ FG ⟨hns, fun b o e => hk₁ b o (of_hideAll _ e), Nat.le_of_eq (hideAll_size _ _)⟩
    (fun p hp => ⟨hk₁ _ _ (N p hp).1, Nat.ne_of_lt (Heap.lt_size (N p hp).1), hideAll_none _ (List.mem_map_of_mem hp)⟩) BG (X₀.keeps st) (T.keeps st)) (fun fl s' hl => lv _ _ hl) fun _ _ y => y

theorem C_defS0 (B : Below A₀ base [] h₀) (F : Fr h₀ L s.heap m) (X₀ : K.In h₀) (N : News h₀ L s.heap news) (T : Top p loose mean mg mb h₀) (hA : A.frames = some [envOf cn cs L a ccd])
    (ho : K.lookup f = some ⟨oc, od, .func (fnOf name qual params body scope dV kV doc pm an cdv ct), osl⟩) (hcd : codeIn K cdv qual = true) (hroom : A.depth < recursionLimit)
    (hbind : BindsTo s (fnOf name qual params body scope dV kV doc pm an cdv ct) args binds) (hloc : ∀ y ∈ binds, scope.names.lookup y.1 = some .local)
    (h : ∀ g L' h₁, Fr h₀ L g m → Fr g L' h₁ (fun y => binds.reverse.lookup y) → News g L' h₁ news → Below A base [envOf cn cs L a ccd] g → K.In g → Top p loose mean mg mb g → KtsDicts ([envOf cn cs L a ccd].filterMap (·.frame)) g →
      wpC (model prog w) (A.deeper (envOf qual scope L' f cdv)) (execs body (envOf qual scope L' f cdv))
        (fun fl s' => LeaveS0 ([envOf cn cs L a ccd].filterMap (·.frame)) h₀ L m g R (match fl with | .ret v => v | _ => .none) s')
        (fun e s' => wpAny (model prog w) (A.deeper (envOf qual scope L' f cdv)) (leaving (envOf qual scope L' f cdv) e) (fun _ s'' => R (.error e) s'') (fun e' s'' => R (.error e') s'') s')
        { s with heap := h₁, toks := s.toks + binds.length })
    (hck : cs.kind = .function) (hco : scope.isCoroutine = false) (hgen : scope.isGenerator = false) (hk : scope.kind = .function)
    (hcell : ∀ x ∈ scope.names, x.2 ≠ .cell) : codeC (model prog w) A (.call (.ref f) args) R s := by
  have X := X₀.keeps F.keep
  refine C_call_def (fd := fnOf name qual params body scope dV kV doc pm an cdv ct) (body := body) (binds := binds) hroom (X _ _ ho) rfl (T.nolimit.keeps F.keep) (codeRec_of X hcd) rfl hbind hcell hloc (fun h₁ hns hk₁ => ?_) hco hgen hk
  obtain ⟨oL, es, ep, hLg, hLd, hN, hNs, st, B₂⟩ := kts_enter B F N hA hck
  refine wpC_mono (h _ s.heap.objs.size h₁ ⟨hN _ hLg, st, F.above⟩ ⟨hns, fun b o e => hk₁ b o (of_hideAll _ e), Nat.le_of_eq (hideAll_size _ _)⟩
    (fun p hp => ⟨hk₁ _ _ (N p hp).1, Nat.ne_of_lt (Heap.lt_size (N p hp).1), hideAll_none _ (List.mem_map_of_mem hp)⟩) B₂ (X₀.keeps st) (T.keeps st) (fun b hb => by
      rcases kts_mem hb with rfl | z
      · exact ⟨oL, es, ep, hLg, hLd⟩
      · simp at z)) (fun fl s' hl => ?_) fun _ _ y => y
  obtain ⟨g', L', m', news', T', F', N', k⟩ := hl
  have nL₀ : h₀.get? L = none := kts_self F
  obtain ⟨sl, hs⟩ := T'.up hLg
  refine k ⟨hNs sl _ (F'.keep _ _ hs), fun b o e => F'.keep b o (T'.other b o (st b o e) (fun q => by
    rcases kts_mem q with z | z
    · rw [z, nL₀] at e
      cases e
    · simp at z)), F.above⟩ fun p hp => ⟨(N' p hp).1, fun q => ?_, ?_⟩
  · have := (N' p hp).2.2; rw [q, hs] at this; cases this
  · cases q : h₀.get? p.1 with
    | none => rfl
    | some o =>
      obtain ⟨sl', hs'⟩ := T'.up (st _ _ q)
      have := (N' p hp).2.2
      rw [hs'] at this
      cases this
end
end Mine
end

section
open PySem PySem.W PyProof.Rows PySem.Calls PySem.Spec PySem.NumText
open Builtin Builtin.Str Builtin.Int
set_option Elab.async false
set_option maxRecDepth 100000
set_option maxHeartbeats 4000000
namespace Mine
section
variable {prog : Program} {w : World} {A : Around} {E : Value → Shared → Prop} {R : Result → Shared → Prop} {s : Shared}

theorem typecall_int (v : Value) : ∃ rest : Value → Sem Fin, Builtin.«type.__call__» ⟨[.type "int", v], []⟩ = (holding [.builtin "int.__new__"] (call (.builtin "int.__new__") [.type "int", v]) >>= rest) := by
  have h1 := F.called_int.notType
  have h2 := F.called_int.canCreate
  have h3 := F.called_int.made
  have h4 := F.mro_int
  have h5 := F.typeCall_int_1 v
  unfold Builtin.«type.__call__»
  simp only [h1, h2, h3, h4, h5, pure_bind, Bool.false_eq_true, if_false, List.isEmpty_cons]
  exact ⟨_, rfl⟩

theorem C_rule {α : Type} {tag : String} {t : Sem α} {Q : α → Shared → Prop} (h : wpC (model prog w) A t Q E s) : wpC (model prog w) A (do rule tag; t) Q E s := wpC_seq (wpAny_rule h)

theorem C_mark {α : Type} {own : List String} {e : Value} {t : Sem α} {Q : α → Shared → Prop} (h : wpC (model prog w) A t Q E s) : wpC (model prog w) A (do markTheRefusal own e; t) Q E s := by
  refine wpC_bind (fun G p hG hC => ?_)
  have hc : (((G.code, p) :: G.below).map (·.1)).any Code.isCaller = true := hC
  show Sem.wp (model prog w) G (do
    let acts ← stack
    if pythonCodeMadeTheCall own (acts.map (·.1)) then _ else _) _ _ p s
  rw [Sem.wp_bind']
  show Sem.wp (model prog w) G (if pythonCodeMadeTheCall own (((G.code, p) :: G.below).map (·.1)) = true then _ else _) _ _ p s
  have hp : pythonCodeMadeTheCall own (((G.code, p) :: G.below).map (·.1)) = false := by
    unfold pythonCodeMadeTheCall
    show (!((((G.code, p) :: G.below).map (·.1)).any Code.isCaller) && _ && _) = false
    rw [hc]
    rfl
  rw [hp]
  exact h

theorem C_ite_neg {α : Type} {c : Prop} [Decidable c] {a b : Sem α} {Q : α → Shared → Prop} (hc : ¬ c) (h : wpC (model prog w) A b Q E s) : wpC (model prog w) A (if c then a else b) Q E s := by rw [if_neg hc]; exact h

theorem C_intFromText {x : Str} {u : Tok} {Q : Value → Shared → Prop} (hh : A.handled = none) (hl : (numSeenOf x).length ≤ 640) (hb : x.length ≤ 1000) (hx : ∀ c ∈ x.cps.toList, c < 16 ^ 8)
    (hr : (int_private% "readNumeral") 0 10 (numSeenOf x) = int_private% "Numeral.invalid")
    (h : ∀ h' e msg, Heap.MadeExc s.heap h' e "ValueError" [msg] → ∀ tk, E (.ref e) { s with heap := h', toks := tk }) :
    wpC (model prog w) A ((int_private% "intFromText") (.str x u) (numTextOf x) 10) Q E s := by
  show wpC _ _ (do
    let limit ← if (numSeenOf x).length ≤ 640 then pure 0 else intMaxStrDigits
    _) _ _ _
  rw [if_pos hl]
  refine wpC_seq (wpAny_pure ?_)
  dsimp only
  rw [hr]
  dsimp only
  refine wpC_seq (wpAny_of_eq (a := none) rfl ?_)
  refine C_ite_neg (by simp) ?_
  refine C_rule (wpC_seq (wpAny_of_eq (a := none) rfl ?_))
  dsimp only
  have hrep : (reprText x).length ≤ sizeLine := Nat.le_trans (StrLaws.reprText_len x hx) (Nat.le_trans (Nat.add_le_add_right (Nat.mul_le_mul_left 10 hb) 2) (by decide))
  refine wpC_seq (wpAny_pyRepr_str ?_ hrep)
  refine wpC_seq (wpAny_mkStr ?_ (by
    show (Str.ofString _ ++ (⟨(reprText x).cps.extract 0 200⟩ : Str)).length ≤ sizeLine
    have e1 : (Str.ofString (toString "invalid literal for int() with base " ++ toString 10 ++ toString ": ")).length = 40 := by decide +kernel
    have e2 : (⟨(reprText x).cps.extract 0 200⟩ : Str).length ≤ 200 := by show ((reprText x).cps.extract 0 200).size ≤ 200; rw [Array.size_extract]; omega
    refine Nat.le_trans (m := 240) ?_ (by decide)
    show (_ ++ _ : Array Nat).size ≤ 240
    rw [Array.size_append]
    have e1' : (Str.ofString (toString "invalid literal for int() with base " ++ toString 10 ++ toString ": ")).cps.size = 40 := e1
    have e2' : ((⟨(reprText x).cps.extract 0 200⟩ : Str)).cps.size ≤ 200 := e2
    omega))
  refine wpC_seq (wpAny_newExc_plain plainExc_ValueError (fun h' e hm => ?_))
  refine C_mark (wpC_of (wpAny_raiseNew_none hh ?_))
  exact h h' e _ hm _
end

section
variable {prog : Program} {w : World} {A : Around} {E : Value → Shared → Prop} {s : Shared}

theorem intNew_str (x : Str) (u : Tok) : ∃ rest : Value → Sem Fin, Builtin.«int.__new__» ⟨[.type "int", .str x u], []⟩ = ((int_private% "intFromObject") (.str x u) >>= rest) := by
  unfold Builtin.«int.__new__»
  have f0 : isType (.type "int") = pure true := rfl
  have f1 := F.conv_sub_int
  have f2 := F.madeHere_int
  simp only [f0, f1, f2, pure_bind]
  exact ⟨_, rfl⟩

theorem C_intFromObject {x : Str} {u : Tok} {Q : Value → Shared → Prop} (h : wpC (model prog w) A ((int_private% "intFromText") (.str x u) (numTextOf x) 10) Q E s) :
    wpC (model prog w) A ((int_private% "intFromObject") (.str x u)) Q E s := by
  have f3 := KIN.str_int
  have f4 := KIN.str_idx
  have f5 := KIN.str_trunc
  have f6 : typeOf (.str x u) = pure (.type "str") := rfl
  show wpC _ _ (do
    let o ← callSpecial? (.str x u) "__int__"
    _) _ _ _
  refine wpC_seq ?_
  repeat (any_goals (first | assumption | wp_step))

theorem codeC_builtin {R : Result → Shared → Prop} {id : String} {args : Args} {b : Builtin} (hb : entryFor table id = some b)
    (h : wpC (model prog w) (A.under (.builtin id args)) (b args)
      (fun fin s' => match fin with | .done f => R (.ok f) s' | .again c' => c'.quiet = true ∧ codeC (model prog w) A c' R s') (fun e s' => R (.error e) s') s) :
    codeC (model prog w) A (.builtin id args) R s := by
  refine codeC_of_tree ?_
  show wpC _ _ (match entryFor table id with | some b => b args | none => unsupported ((withoutEnding? id "#data").getD id)) _ _ s
  rw [hb]; exact h

/-- int(text) refuses, in a stack that holds the claim's caller -/
theorem C_int_refuses {x : Str} {u : Tok} {Q : Value → Shared → Prop} (hh : A.handled = none) (hl : x.length ≤ 640) (hx : ∀ c ∈ x.cps.toList, c < 16 ^ 8)
    (hr : (int_private% "readNumeral") 0 10 (numSeenOf x) = int_private% "Numeral.invalid")
    (h : ∀ h' e msg, Heap.MadeExc s.heap h' e "ValueError" [msg] → ∀ tk, E (.ref e) { s with heap := h', toks := tk }) :
    wpC (model prog w) A (call (.type "int") [.str x u]) Q E s := by
  refine wpC_call (codeC_of_tree ?_)
  show wpC _ _ (callAny (.type "int") _) _ _ _
  refine wpC_pure ⟨Code.quiet_builtin _ (by decide +kernel), codeC_builtin F.entry_type_call ?_⟩
  rw [Around.under_plain (weight_type_call_type "int" [.str x u] []) (units_type_call_type "int" [.str x u] [])]
  obtain ⟨rest, er⟩ := typecall_int (.str x u)
  show wpC _ _ (Builtin.«type.__call__» ⟨[.type "int", .str x u], []⟩) _ _ s
  rw [er]
  refine wpC_bind (wpC_holding (wpC_mono (Q := fun _ _ => False) (wpC_call (codeC_of_tree ?_)) (fun _ _ z => z.elim) fun _ _ z => z))
  show wpC _ _ (do checkBuiltinCall "int.__new__" ⟨[.type "int", .str x u], []⟩; again (.builtin "int.__new__" ⟨[.type "int", .str x u], []⟩)) _ _ s
  refine wpC_seq (wpAny_of_eq (F.newCall_int_1 _) (wpC_pure ⟨plainId_quiet F.called_int.plain _, codeC_builtin F.entry_int_new ?_⟩))
  rw [Around.under_plainId F.called_int.plain]
  obtain ⟨rest', er'⟩ := intNew_str x u
  rw [er']
  refine wpC_bind (wpC_mono (Q := fun _ _ => False) (C_intFromObject (C_intFromText hh (Nat.le_trans (seen_length x) hl) (Nat.le_trans hl (by decide)) hx hr ?_)) (fun _ _ z => z.elim) fun _ _ z => z)
  exact h
end
end Mine
end

section
open PySem PySem.W PyProof.Rows PySem.Calls PySem.Spec
open PySem.Builtin PySem.Builtin.Str
set_option Elab.async false
set_option maxRecDepth 100000
set_option maxHeartbeats 4000000
namespace Mine

/-! Texts as lists of code points. -/
noncomputable def S (l : List Nat) : Str := ⟨l.toArray⟩
theorem S_list (l : List Nat) : (S l).cps.toList = l := rfl
theorem S_len (l : List Nat) : (S l).length = l.length := rfl
theorem S_of (x : Str) : x = S x.cps.toList := rfl
theorem S_ext {x : Str} {l : List Nat} (h : x.cps.toList = l) : x = S l := by subst h; rfl
theorem S_inj {a b : List Nat} (h : S a = S b) : a = b := congrArg (fun x : Str => x.cps.toList) h
theorem S_append (a b : List Nat) : S a ++ S b = S (a ++ b) := S_ext (by show (_ ++ _ : Array Nat).toList = _; simp [S])
def Alph (l : List Nat) : Prop := ∀ c ∈ l, c = 34 ∨ c = 92 ∨ (48 ≤ c ∧ c ≤ 57)
theorem Alph.append {a b : List Nat} (ha : Alph a) (hb : Alph b) : Alph (a ++ b) := fun c hc => (List.mem_append.mp hc).elim (ha c) (hb c)

theorem find_at {x : Str} {a b : List Nat} {c : Nat} (e : x.cps.toList = a ++ c :: b) (hc : c ∉ a) : Txt.find x ⟨#[c]⟩ = (a.length : Int) := by
  unfold Txt.find
  have hat : x.cps.toList[a.length]? = some c := by rw [e]; simp
  have hno : ∀ k, k < a.length → x.cps.toList[k]? ≠ some c := fun k hk h => by
    rw [e, List.getElem?_append_left hk] at h
    exact hc (List.mem_of_getElem? h)
  rcases StrLaws.occ_head x ⟨#[c]⟩ 1 (Nat.le_refl 1) with ⟨_, hn⟩ | ⟨i, r, h0, hi, hn⟩
  · exact absurd ((StrLaws.subAt_one x c _).mpr hat) (hn _)
  · rw [h0]
    have h1 := (StrLaws.subAt_one x c i).mp hi
    have h2 : ¬ i < a.length := fun h => hno i h h1
    have h3 : ¬ a.length < i := fun h => hn _ h ((StrLaws.subAt_one x c _).mpr hat)
    show (i : Int) = a.length
    omega

theorem find3_at {x : Str} {p a b : List Nat} {c : Nat} (e : x.cps.toList = p ++ (a ++ c :: b)) (hc : c ∉ a) : Txt.find3 x ⟨#[c]⟩ (p.length : Int) = ((p.length + a.length : Nat) : Int) := by
  have hl : x.length = p.length + (a.length + (b.length + 1)) := by
    show x.cps.size = _
    rw [← Array.length_toList, e]; simp
  have hf : fromIndex x.length (p.length : Int) = p.length := by
    unfold fromIndex
    rw [hl]
    first | rfl | omega | (simp; omega) | (split <;> omega)
  have hat : x.cps.toList[p.length + a.length]? = some c := by
    rw [e, List.getElem?_append_right (by omega)]; simp
  have hno : ∀ k, p.length ≤ k → k < p.length + a.length → x.cps.toList[k]? ≠ some c := fun k h1 h2 h => by
    rw [e, List.getElem?_append_right h1, List.getElem?_append_left (by omega)] at h
    exact hc (List.mem_of_getElem? h)
  rcases StrLaws.find3_spec x c (p.length : Int) with ⟨_, hn⟩ | ⟨k, h0, h1, h2, h3, hn⟩
  · rw [hf] at hn
    exact absurd (StrLaws.getD_of_getElem? hat) (hn _ (by omega) (by omega))
  · rw [hf] at h1 hn
    rw [h0]
    have h4 : ¬ k < p.length + a.length := fun h => hno k h1 h (StrLaws.getElem?_of_getD h2 h3)
    have h5 : ¬ p.length + a.length < k := fun h => hn _ (by omega) h (StrLaws.getD_of_getElem? hat)
    have : k = p.length + a.length := by omega
    rw [this]

/-! The reply that parse229 is told. -/
noncomputable abbrev respOf (l : List Nat) : Str := Str.ofString "229 port (\"\"\"" ++ S l ++ Str.ofString "\")"
theorem resp_pre : Str.ofString "229 port (\"\"\"" = S [50, 50, 57, 32, 112, 111, 114, 116, 32, 40, 34, 34, 34] := by decide +kernel
theorem resp_post : Str.ofString "\")" = S [34, 41] := by decide +kernel
theorem resp_eq (l) : respOf l = S ([50, 50, 57, 32, 112, 111, 114, 116, 32, 40, 34, 34, 34] ++ l ++ [34, 41]) := by
  unfold respOf
  rw [resp_pre, resp_post, S_append, S_append]
theorem F0 (l) : (respOf l).length = 15 + l.length := by rw [resp_eq, S_len]; simp; omega
theorem F0s (l) : (S l).length = l.length := rfl
theorem F1 (l) : (Txt.slice (respOf l) none (some 3) != Str.ofString "229") = false := by
  have e : Txt.slice (respOf l) none (some 3) = S [50, 50, 57] := by
    show StrLaws.sliceText _ _ _ = _
    rw [StrLaws.sliceText_to ⟨by decide, by rw [resp_eq, S_list]; simp; omega⟩, resp_eq, S_list]
    rfl
  rw [e]; decide +kernel
theorem F2 (l) : Txt.find (respOf l) (Str.ofString "(") = 9 :=
  find_at (x := respOf l) (a := [50, 50, 57, 32, 112, 111, 114, 116, 32]) (b := [34, 34, 34] ++ l ++ [34, 41]) (c := 40) (by rw [resp_eq, S_list]; rfl) (by decide)
theorem alph_free {l : List Nat} (hl : Alph l) {c : Nat} (h1 : c ≠ 34) (h2 : c ≠ 92) (h3 : ¬ (48 ≤ c ∧ c ≤ 57)) : c ∉ l := fun h => by
  rcases hl c h with e | e | e
  · exact h1 e
  · exact h2 e
  · exact h3 e
theorem F3 {l} (hl : Alph l) : Txt.find3 (respOf l) (Str.ofString ")") 10 = 14 + (l.length : Int) := by
  have h := find3_at (x := respOf l) (p := [50, 50, 57, 32, 112, 111, 114, 116, 32, 40]) (a := [34, 34, 34] ++ l ++ [34]) (b := []) (c := 41) (by rw [resp_eq, S_list]; simp) (by
    have := alph_free hl (c := 41) (by decide) (by decide) (by decide)
    simp [this])
  refine h.trans ?_
  simp; omega
theorem item_of {x : Str} {i : Int} {c : Nat} (h0 : 0 ≤ i) (h : x.cps.toList[i.toNat]? = some c) : Txt.item x i = ⟨#[c]⟩ := by
  unfold Txt.item Txt.charAt
  rw [StrLaws.at_nonneg h0 (n := c) (by rw [← h]; simp)]
  rfl
theorem F4 {l : List Nat} {i : Int} (h : i = 10 ∨ i = 13 + (l.length : Int)) : Txt.item (respOf l) i = ⟨#[34]⟩ := by
  refine item_of (by omega) ?_
  rw [resp_eq, S_list]
  rcases h with rfl | rfl
  · rfl
  · have e : (13 + (l.length : Int)).toNat = 13 + l.length := by omega
    rw [e, List.getElem?_append_right (by simp; omega)]
    have e2 : 13 + l.length - ([50, 50, 57, 32, 112, 111, 114, 116, 32, 40, 34, 34, 34] ++ l).length = 0 := by simp; omega
    rw [e2]; rfl
theorem F6 (l : List Nat) : Txt.slice (respOf l) (some (9 + 1)) (some (14 + (l.length : Int))) = S (34 :: 34 :: 34 :: (l ++ [34])) := by
  show StrLaws.sliceText _ _ _ = _
  rw [StrLaws.sliceText_plain ⟨by decide, by omega, by rw [resp_eq, S_list]; simp; omega⟩, resp_eq, S_list]
  have e : (14 + (l.length : Int) - (9 + 1)).toNat = 4 + l.length := by omega
  rw [e]
  show S _ = S _
  congr 1
  show ([34, 34, 34] ++ l ++ [34, 41]).take (4 + l.length) = _
  have : [34, 34, 34] ++ l ++ [34, 41] = ([34, 34, 34] ++ l ++ [34]) ++ [41] := by simp
  rw [this, List.take_left' (by simp; omega)]
  simp

/-- the parts between the signs c -/
noncomputable def splitL (c : Nat) : List Nat → List (List Nat)
  | [] => [[]]
  | a :: r => if a = c then [] :: splitL c r else match splitL c r with
    | p :: ps => (a :: p) :: ps
    | [] => [[a]]
theorem splitL_free_append {c : Nat} : ∀ {p : List Nat} (_ : c ∉ p) (r : List Nat), splitL c (p ++ c :: r) = p :: splitL c r
  | [], _, r => by simp [splitL]
  | a :: p, h, r => by
    have ha : a ≠ c := fun e => h (e ▸ List.mem_cons_self ..)
    have hp : c ∉ p := fun e => h (List.mem_cons_of_mem _ e)
    rw [List.cons_append, splitL, if_neg ha, splitL_free_append hp r]
theorem splitL_free {c : Nat} : ∀ {p : List Nat} (_ : c ∉ p), splitL c p = [p]
  | [], _ => rfl
  | a :: p, h => by
    have ha : a ≠ c := fun e => h (e ▸ List.mem_cons_self ..)
    have hp : c ∉ p := fun e => h (List.mem_cons_of_mem _ e)
    rw [splitL, if_neg ha, splitL_free hp]
theorem splitL_length (c : Nat) : ∀ l : List Nat, (splitL c l).length = l.count c + 1
  | [] => rfl
  | a :: r => by
    have ih := splitL_length c r
    rw [splitL]
    by_cases h : a = c
    · subst h
      rw [if_pos rfl]
      simp [ih]
    · rw [if_neg h, List.count_cons_of_ne h]
      cases hs : splitL c r with
      | nil => rw [hs] at ih; simp at ih
      | cons p ps => rw [hs] at ih; simpa using ih
theorem splitL_join (c : Nat) : ∀ (parts : List Str), parts ≠ [] → (∀ p ∈ parts, c ∉ p.cps.toList) → parts.map (·.cps.toList) = splitL c (Str.join ⟨#[c]⟩ parts).cps.toList
  | [], h, _ => absurd rfl h
  | [p], _, hf => by
    show [p.cps.toList] = splitL c p.cps.toList
    rw [splitL_free (hf p (List.mem_singleton.mpr rfl))]
  | p :: q :: r, _, hf => by
    have ih := splitL_join c (q :: r) (by simp) (fun p hp => hf p (List.mem_cons_of_mem _ hp))
    show _ = splitL c (p ++ ⟨#[c]⟩ ++ Str.join ⟨#[c]⟩ (q :: r)).cps.toList
    have e : (p ++ ⟨#[c]⟩ ++ Str.join ⟨#[c]⟩ (q :: r)).cps.toList = p.cps.toList ++ c :: (Str.join ⟨#[c]⟩ (q :: r)).cps.toList := by
      rw [PySem.Str.cps_append, PySem.Str.cps_append]; simp
    rw [e, splitL_free_append (hf p (List.mem_cons_self ..)), ← ih]
    rfl
theorem split_ne (x y : Str) : Txt.split x y ≠ [] := by
  unfold Txt.split
  split
  · simp
  · split
    · simp
    · rw [StrLaws.partsBetween_eq]
      obtain ⟨p, r, e⟩ := StrLaws.partsFrom_ne x y.length 0 (occurrences x y 0 x.length (x.length + 1))
      rw [e]; simp
theorem split_list (x : Str) (c : Nat) : (Txt.split x ⟨#[c]⟩).map (·.cps.toList) = splitL c x.cps.toList := by
  rw [splitL_join c _ (split_ne x _) (StrLaws.split_free x c), StrLaws.join_split]
theorem F7 {l : List Nat} {ps : List (Str × Tok)} (hl : l.length ≤ 1000) (hq : 34 ∈ l) (e : ps.map (·.1) = Txt.split (Txt.slice (respOf l) (some (9 + 1)) (some (14 + (l.length : Int)))) ⟨#[34]⟩) : ps.length ≠ 5 ∧ ps.length ≤ 2000 := by
  rw [F6] at e
  have h : ps.length = (splitL 34 (34 :: 34 :: 34 :: (l ++ [34]))).length := by
    have := congrArg List.length (split_list (S (34 :: 34 :: 34 :: (l ++ [34]))) 34)
    rw [List.length_map, ← e, List.length_map] at this
    exact this
  rw [splitL_length] at h
  have hc : 1 ≤ l.count 34 := List.one_le_count_iff.mpr hq
  have hc2 : l.count 34 ≤ l.length := List.count_le_length
  simp only [List.count_cons, List.count_append, List.count_nil] at h
  simp at h
  omega
theorem F8 {l : List Nat} {ps : List (Str × Tok)} (hq : 34 ∉ l) (e : ps.map (·.1) = Txt.split (Txt.slice (respOf l) (some (9 + 1)) (some (14 + (l.length : Int)))) ⟨#[34]⟩) : ps.map (·.1) = [S [], S [], S [], S l, S []] := by
  rw [F6] at e
  rw [e]
  have h := split_list (S (34 :: 34 :: 34 :: (l ++ [34]))) 34
  have h2 : splitL 34 (34 :: 34 :: 34 :: (l ++ [34])) = [[], [], [], l, []] := by
    simp only [splitL, if_true]
    rw [splitL_free_append hq]
    rfl
  rw [S_list, h2] at h
  have h3 : ((Txt.split (S (34 :: 34 :: 34 :: (l ++ [34]))) ⟨#[34]⟩).map (·.cps.toList)).map S = [S [], S [], S [], S l, S []] := by rw [h]; rfl
  rw [List.map_map] at h3
  rw [← h3]
  show _ = List.map (fun x => x) _
  rw [List.map_id']

/-! Readings of the library, turned to the facts. -/
section
variable {prog : Program} {w : World} {A : Around} {E : Value → Shared → Prop} {s : Shared} {value slice : Expr} {x y : Str} {t u v : Tok} {i : Int} {Q : Value → Shared → Prop} {h₀ : Heap} {L : Addr} {m : PySem.Str → Option Value} {news : List (Addr × Obj)}
theorem my_find (e : Txt.find x y = i) (hq : Q (.int i s.toks) { s with toks := s.toks + 1 }) : wpAny (model prog w) A (call (.builtin "str.find") [.str x t, .str y u]) Q E s := SC.find (by rw [e]; exact hq)
theorem my_find3 {j : Int} (e : Txt.find3 x y j = i) (hq : Q (.int i s.toks) { s with toks := s.toks + 1 }) : wpAny (model prog w) A (call (.builtin "str.find") [.str x t, .str y u, .int j v]) Q E s := SC.find3 (by rw [e]; exact hq)
theorem my_item (e : Txt.item x i = y) (hn : x.length ≤ 2000) (h1 : 0 ≤ i) (h2 : i < x.length)
    (h : Q (.str y s.toks) { s with toks := s.toks + 1 })
    (hs : subscripted slice false (.str x t) (.int i u) = operate [.str x t, .int i u] (getItem (.str x t) (.int i u)) := by with_unfolding_all rfl)
    (ht : ∀ r, letTemporaryGo value (.str x t) r = pure () := by intro _; with_unfolding_all rfl) :
    wpAny (model prog w) A (subscriptTail value slice (.str x t) (.int i u)) Q E s :=
  item_str (fitsSsize_of (N := 9223372036854775808) (by omega) (by omega) (Int.le_refl _)) (by omega) h2 (fun _ => by rw [e]; exact h) hs ht
theorem my_len {D : Addr} {vs : List Value} {n : Nat} (hN : News h₀ L s.heap news) (hm : (D, W.listOf vs.toArray n) ∈ news) (hn : vs.length = i) (hi : i ≤ 2000) (h : Q (.int i (s.toks + 1)) { s with toks := s.toks + 1 + 1 }) :
    wpAny (model prog w) A (call (.builtin "len") [.ref D]) Q E s := by
  have hL : s.heap.IsList D vs.toArray := ⟨_, (hN _ hm).1, rfl, _, rfl⟩
  subst hn
  refine call_len_list hL ?_ ?_
  · rw [List.size_toArray]; omega
  · rw [List.size_toArray]; exact h
end
theorem news_sub {h₀ h : Heap} {L : Addr} {news news' : List (Addr × Obj)} (N : News h₀ L h news') (hs : ∀ q ∈ news, q ∈ news') : News h₀ L h news := fun q hq => N q (hs q hq)
/-! int(text) of a text of digits and backslashes -/
open PySem.NumText
theorem alph_seen {l : List Nat} (hl : Alph l) : numTextOf (S l) = l ∧ numSeenOf (S l) = l := by
  have h1 : (S l).cps.all (· < 128) = true := by
    rw [Array.all_eq_true_iff_forall_mem]
    intro c hc
    rcases hl c (by simpa [S] using hc) with e | e | e <;> simp <;> omega
  have h2 : numTextOf (S l) = l := by unfold numTextOf; rw [if_pos h1]; rfl
  refine ⟨h2, ?_⟩
  unfold numSeenOf
  rw [h2]
  clear h1 h2
  induction l with
  | nil => rfl
  | cons a r ih =>
    rw [List.takeWhile_cons, ih (fun c hc => hl c (List.mem_cons_of_mem _ hc))]
    have : (a != 0) = true := by rcases hl a (List.mem_cons_self ..) with e | e | e <;> simp <;> omega
    rw [this]; rfl
theorem alph_le {l : List Nat} (hl : Alph l) : ∀ c ∈ l, c ≤ 92 := fun c hc => by rcases hl c hc with e | e | e <;> omega
theorem step_bad (p : Array Nat × Bool) : NumText.step 10 p 92 = none := by
  unfold NumText.step
  have : NumText.digit? 92 = none := by decide
  simp [this]
theorem fold_bad : ∀ (cs : List Nat) (p : Array Nat × Bool), 92 ∈ cs → cs.foldlM (NumText.step 10) p = none
  | [], _, h => by cases h
  | c :: r, p, h => by
    rw [List.foldlM_cons]
    cases hs : NumText.step 10 p c with
    | none => rfl
    | some p' =>
      refine fold_bad r p' ?_
      rcases List.mem_cons.mp h with e | h
      · subst e; rw [step_bad] at hs; cases hs
      · exact h
theorem alph_blank {l : List Nat} (hl : Alph l) : l.dropWhile NumText.blank = l := by
  cases l with
  | nil => rfl
  | cons a r =>
    rw [List.dropWhile_cons]
    have : NumText.blank a = false := by
      rcases hl a (List.mem_cons_self ..) with e | e | e
      · subst e; decide
      · subst e; decide
      · exact (by decide +kernel : ∀ a : Nat, a < 58 → 48 ≤ a → NumText.blank a = false) a (by omega) e.1
    rw [this]; rfl
theorem alph_sign {l : List Nat} (hl : Alph l) : NumText.sign l = (false, l) := by
  unfold NumText.sign
  split
  · rename_i r; rcases hl 45 (List.mem_cons_self ..) with e | e | e <;> omega
  · rename_i r; rcases hl 43 (List.mem_cons_self ..) with e | e | e <;> omega
  · rfl
theorem read_bad {l : List Nat} (hl : Alph l) (hb : 92 ∈ l) : (int_private% "readNumeral") 0 10 (numSeenOf (S l)) = int_private% "Numeral.invalid" := by
  rw [(alph_seen hl).2, NumText.readNumeral_ten]
  have h1 : NumText.core l = l := by
    unfold NumText.core
    rw [alph_blank hl, alph_sign hl]
    show (l.reverse.dropWhile NumText.blank).reverse = l
    rw [alph_blank (l := l.reverse) (fun c hc => hl c (List.mem_reverse.mp hc)), List.reverse_reverse]
  have h2 : NumText.digits? 10 (NumText.core l) = none := by
    rw [h1]
    unfold NumText.digits?
    rw [fold_bad l _ hb]
    rfl
  rw [h2]
  exact NumText.judge_none

theorem q_str : Str.ofString "\"" = ⟨#[34]⟩ := by decide +kernel
theorem b_str : Str.ofString "\\" = ⟨#[92]⟩ := by decide +kernel
theorem occ_q {l : List Nat} {b : Bool} (h : (occurrences (S l) (Str.ofString "\"") 0 (S l).length 1).isEmpty = b) : b = !decide (34 ∈ l) := by
  have := StrLaws.found_one (S l) 34
  rw [← q_str, h, S_list] at this
  rw [← this]; simp
theorem occ_b {l : List Nat} {b : Bool} (h : (occurrences (S l) (Str.ofString "\\") 0 (S l).length 1).isEmpty = b) : b = !decide (92 ∈ l) := by
  have := StrLaws.found_one (S l) 92
  rw [← b_str, h, S_list] at this
  rw [← this]; simp
theorem dig_find {c : Nat} (h : 48 ≤ c ∧ c ≤ 57) : Txt.find (Str.ofString "0123456789") ⟨#[c]⟩ = ((c - 48 : Nat) : Int) := by
  exact (by decide +kernel : ∀ c : Nat, c < 58 → 48 ≤ c → Txt.find (Str.ofString "0123456789") ⟨#[c]⟩ = ((c - 48 : Nat) : Int)) c (by omega) h.1
theorem alph_digits {l : List Nat} (hl : Alph l) (h1 : 34 ∉ l) (h2 : 92 ∉ l) : NumText.AllDigits l := fun c hc => by
  rcases hl c hc with e | e | e
  · subst e; exact absurd hc h1
  · subst e; exact absurd hc h2
  · exact e
theorem due_no {l : List Nat} {a : Str} (hl : NumText.AllDigits l) (h : a ∈ signs (S l)) : Txt.find (Str.ofString "0123456789") a ≠ -1 := by
  obtain ⟨c, hc, rfl⟩ := List.mem_map.mp h
  rw [dig_find (hl c hc)]
  omega
theorem due_fold : ∀ (l : List Nat) (n : Nat), NumText.AllDigits l → List.foldl (fun T a => T * 10 + Txt.find (Str.ofString "0123456789") a) (n : Int) (signs (S l)) = ((l.foldl (fun acc c => acc * 10 + (c - 48)) n : Nat) : Int)
  | [], _, _ => rfl
  | c :: r, n, h => by
    have e : signs (S (c :: r)) = ⟨#[c]⟩ :: signs (S r) := rfl
    rw [e, List.foldl_cons, List.foldl_cons, dig_find h.head, ← due_fold r _ h.tail]
    congr 1
theorem due_val {l : List Nat} (h : NumText.AllDigits l) : List.foldl (fun T a => T * 10 + Txt.find (Str.ofString "0123456789") a) 0 (signs (S l)) = ((NumText.digitsVal l : Nat) : Int) := due_fold l 0 h
theorem occ_q1 {l : List Nat} (h : (occurrences (S l) (Str.ofString "\"") 0 (S l).length 1).isEmpty = true) : 34 ∉ l := by have := occ_q h; simpa using this
theorem occ_q0 {l : List Nat} (h : (occurrences (S l) (Str.ofString "\"") 0 (S l).length 1).isEmpty = false) : 34 ∈ l := by have := occ_q h; simpa using this
theorem occ_b1 {l : List Nat} (h : (occurrences (S l) (Str.ofString "\\") 0 (S l).length 1).isEmpty = true) : 92 ∉ l := by have := occ_b h; simpa using this
theorem occ_b0 {l : List Nat} (h : (occurrences (S l) (Str.ofString "\\") 0 (S l).length 1).isEmpty = false) : 92 ∈ l := by have := occ_b h; simpa using this
end Mine
end

section
open PySem PySem.W PyProof.Rows PySem.Calls PySem.Spec
set_option Elab.async false
set_option maxRecDepth 100000
set_option maxHeartbeats 4000000
namespace Mine
noncomputable abbrev tup (vs : List Value) : Obj := ⟨.type "tuple", none, .seq vs.toArray 0, #[]⟩
inductive PInv (s : Shared) (h₀ : Heap) (L I ax : Addr) (items : Array Value) (news : List (Addr × Obj)) (J : Nat → (Str → Option Value) → List (Addr × Obj) → Prop) : Nat → Shared → Prop
  | mk (h : Heap) (tk : Nat) (m : Str → Option Value) (nw : List (Addr × Obj)) (i : Nat) (hst : h.IsListIter I ax i ∧ h.IsList ax items) (F : Fr h₀ L h m) (N : News h₀ L h nw) (ha : nw.map (·.1) = news.map (·.1)) (hJ : J i m nw) (hi : i ≤ items.size) :
    PInv s h₀ L I ax items news J (items.size + 1 - i) { s with heap := h, toks := tk }
section
variable {prog : Program} {w : World} {A : Around} {s : Shared} {env : Env} {h₀ : Heap}

/-- for x, y in a list of pairs that does not change -/
theorem forLoop_pairs {R : Result → Shared → Prop} {xi xc : Str} {pk pv pt : Pos} {x1 : Nat} {body : List Stmt} {I ax : Addr} {items : Array Value}
    {P2 : Nat → Value → Value → Prop} {m : Str → Option Value} {news : List (Addr × Obj)} (hh : A.handled = none)
    (hxi : env.kindOf xi = some .local) (hxc : env.kindOf xc = some .local)
    (hp : (env.scope.kind == .class || (env.scope.kind == .module && env.locals != env.globals)) = false)
    (hne : ax ≠ I) (hLf : env.locals ∉ [I, ax]) (hI : h₀.get? I = none) (hnw : ∀ p ∈ news, p.1 ∉ [I])
    (hst : s.heap.IsListIter I ax 0 ∧ s.heap.IsList ax items) (F : Fr h₀ env.locals s.heap m) (N : News h₀ env.locals s.heap news)
    (J : Nat → (Str → Option Value) → List (Addr × Obj) → Prop) (h0 : J 0 m news)
    (hT : ∀ i v m₁ news₁, items[i]? = some v → J i m₁ news₁ → ∃ T v0 v1, v = .ref T ∧ (T, tup [v0, v1]) ∈ news₁ ∧ P2 i v0 v1)
    (step : ∀ i v0 v1 m₁ news₁ s₁ own, (∃ h tk, s₁ = { s with heap := h, toks := tk }) → i < items.size → P2 i v0 v1 → J i m₁ news₁ → news₁.map (·.1) = news.map (·.1) → (∀ p ∈ own, p.1 ∈ [I, ax]) →
      Fr h₀ env.locals s₁.heap (fun y => if y = xc then some v1 else if y = xi then some v0 else m₁ y) → News h₀ env.locals s₁.heap (own ++ news₁) →
      wpAny (model prog w) A (execs body env) (LoopStep3 h₀ env.locals own news₁ (J (i + 1)) s₁ (fun v s' => R (.ok (.ret v)) s') fun s' => R (.ok .next) s') (notedBy (model prog w) A env fun e s' => R (.error e) s') s₁)
    (hR : ∀ h' tk m' news', Fr h₀ env.locals h' m' → News h₀ env.locals h' news' → news'.map (·.1) = news.map (·.1) → J items.size m' news' → R (.ok .next) { s with heap := h', toks := tk }) :
    codeAny (model prog w) A (.forLoop (.Tuple [.Name xi pk, .Name xc pv] x1 pt) (.ref I) body [] env) R s := by
  have W := Walks.list (prog := prog) (w := w) hh I ax hne items
  have hwr : ∀ b ∈ [I], h₀.get? b = none := fun b hb => by rw [List.mem_singleton.mp hb]; exact hI
  have hLw : env.locals ∉ [I] := fun h => hLf (W.sub _ h)
  have old : ∀ b o, h₀.get? b = some o → b ∉ [I] := fun b o e hb => by rw [hwr b hb] at e; cases e
  have hnw' : ∀ news' : List (Addr × Obj), news'.map (·.1) = news.map (·.1) → ∀ p ∈ news', p.1 ∉ [I] := fun news' ha p hp => by
    have : p.1 ∈ news.map (·.1) := ha ▸ List.mem_map.mpr ⟨p, hp, rfl⟩
    obtain ⟨q, hq, e⟩ := List.mem_map.mp this
    exact e ▸ hnw q hq
  refine codeAny_forLoop_any (PInv s h₀ env.locals I ax items news J) ?_ (items.size + 1) (.mk s.heap s.toks m news 0 hst F N rfl h0 (Nat.zero_le _))
  intro k s' hk
  cases hk with
  | mk H tk m' news' i hst' F' N' ha' hJ hi =>
  have next : ∀ h₁ : Heap, (∀ b o, b ∉ [I] → H.get? b = some o → h₁.get? b = some o) → Fr h₀ env.locals h₁ m' ∧ News h₀ env.locals h₁ news' := fun h₁ hk₁ =>
    ⟨⟨F'.ns.at' fun o e => hk₁ _ o hLw e, fun b o e => hk₁ b o (old b o e) (F'.keep b o e), F'.above⟩, fun p hp => ⟨hk₁ _ _ (hnw' news' ha' p hp) (N' p hp).1, (N' p hp).2⟩⟩
  by_cases hlt : i < items.size
  · refine W.item i _ _ _ hlt hst' fun v h₁ tk₁ hPt hst₁ hk₁ => ?_
    refine hide fun G9 k9 => ?_
    obtain ⟨T, v0, v1, ev, hmem, hP2⟩ := hT i v m' news' hPt hJ
    subst ev
    refine k9 ?_
    clear k9
    obtain ⟨F₁, N₁⟩ := next h₁ hk₁
    have hgo : wpAny (model prog w) A (letOwnedTupleGo (.Tuple [.Name xi pk, .Name xc pv] x1 pt) (.ref I) (.ref T)) (fun _ s₁' =>
          wpAny (model prog w) A (assign (.Tuple [.Name xi pk, .Name xc pv] x1 pt) env (.ref T)) (fun _ s₂ => wpAny (model prog w) A (execs body env) (fun f s₃ => match f with
            | .next | .cont => ∃ m, m < items.size + 1 - i ∧ PInv s h₀ env.locals I ax items news J m s₃
            | .brk => R (.ok .next) s₃
            | .ret v => R (.ok (.ret v)) s₃) (notedBy (model prog w) A env fun e s' => R (.error e) s') s₂) (notedBy (model prog w) A env fun e s' => R (.error e) s') s₁') (notedBy (model prog w) A env fun e s' => R (.error e) s') { s with heap := h₁, toks := tk₁ } := by
      refine hide fun G9 k9 => ?_
      obtain ⟨oI, hoI, hcI, hdI⟩ := hst₁.1
      obtain ⟨oc, od, odt, osl⟩ := oI
      simp only at hcI hdI
      subst hcI hdI
      refine k9 ?_
      clear k9
      unfold letOwnedTupleGo
      refine wpAny_bind (wpAny_load hoI ?_)
      dsimp only
      rw [if_neg (by intro hx; rw [Bool.and_eq_true] at hx; exact absurd hx.1 (by decide +kernel))]
      refine wpAny_pure ?_
      have ht₂ : h₁.IsTuple T #[v0, v1] := ⟨_, (N₁ _ hmem).1, rfl, _, rfl⟩
      refine wpAny_assign_Tuple hh ht₂ rfl rfl fun h₃ hx₃ => ?_
      replace hx₃ : Heap.ExtBut h₁.objs.size h₁ h₃ := hx₃
      have up₃ : ∀ b o, h₁.get? b = some o → h₃.get? b = some o := fun b o x => hx₃ b o (Nat.ne_of_lt (Heap.lt_size x)) x
      obtain ⟨F₃, N₃⟩ := next h₃ fun b o hb x => up₃ b o (hk₁ b o hb x)
      show wpAny _ A (do holding [v1] (assign (.Name xi pk) env v0); do holding [] (assign (.Name xc pv) env v1); pure ()) _ _ _
      refine wpAny_bind (wpAny_holding (wpAny_assign_Name (wpAny_storeName_local hxi F₃.ns (fun h₄ hn₄ hs₄ => ?_) hp)))
      replace hs₄ : Heap.SameBut env.locals h₃ h₄ := hs₄
      have F₄ := F₃.set hn₄ hs₄
      refine wpAny_bind (wpAny_holding (wpAny_assign_Name (wpAny_storeName_local hxc F₄.ns (fun h₅ hn₅ hs₅ => wpAny_pure ?_) hp)))
      replace hs₅ : Heap.SameBut env.locals h₄ h₅ := hs₅
      have F₅ := F₄.set hn₅ hs₅
      have N₅ : News h₀ env.locals h₅ news' := (N₃.set hs₄).set hs₅
      have hst₅ : h₅.IsListIter I ax (i + 1) ∧ h₅.IsList ax items := W.frame _ _ _ hst₁ fun b hb o e => hs₅.extBut b o (fun q => hLf (q ▸ hb)) (hs₄.extBut b o (fun q => hLf (q ▸ hb)) (up₃ b o e))
      refine wpAny_mono (step i v0 v1 m' news' _ (ownOf h₀ [I, ax] h₅) ⟨_, _, rfl⟩ hlt hP2 hJ ha' ownOf_sub F₅ ((news_ownOf hLf).append N₅)) (fun f s₃ h₆ => ?_) fun _ _ e => e
      have fin : ∀ {h₆' : Heap} {m₂ : Str → Option Value} {news₂ : List (Addr × Obj)}, Fr h₀ env.locals h₆' m₂ → News h₀ env.locals h₆' (ownOf h₀ [I, ax] h₅ ++ news₂) → h₆'.IsListIter I ax (i + 1) ∧ h₆'.IsList ax items := fun F₆ N₆ => by
        refine W.frame _ _ _ hst₅ fun b hb o e => ?_
        cases hn : h₀.get? b with
        | some o₀ =>
          have : o₀ = o := by have q := F₅.keep b o₀ hn; rw [e] at q; exact (Option.some.inj q).symm
          exact this ▸ F₆.keep b o₀ hn
        | none => exact (N₆ _ (List.mem_append_left _ (mem_ownOf hb hn e))).1
      have stp : ∀ {h₆' : Heap} {tk₆ : Nat} {m₂ : Str → Option Value} {news₂ : List (Addr × Obj)}, Fr h₀ env.locals h₆' m₂ → News h₀ env.locals h₆' (ownOf h₀ [I, ax] h₅ ++ news₂) → news₂.map (·.1) = news'.map (·.1) → J (i + 1) m₂ news₂ →
          ∃ m, m < items.size + 1 - i ∧ PInv s h₀ env.locals I ax items news J m { s with heap := h₆', toks := tk₆ } := fun F₆ N₆ ha₆ hJ₆ => ⟨items.size + 1 - (i + 1), by omega, .mk _ _ _ _ (i + 1) (fin F₆ N₆) F₆ N₆.right (ha₆.trans ha') hJ₆ hlt⟩
      cases f with
      | ret v => exact h₆
      | brk => exact h₆
      | cont =>
        obtain ⟨_, h₆', tk₆, m₂, news₂, rfl, F₆, N₆, ha₆, hJ₆⟩ := h₆
        exact stp F₆ N₆ ha₆ hJ₆
      | next =>
        obtain ⟨_, h₆', tk₆, m₂, news₂, rfl, F₆, N₆, ha₆, hJ₆⟩ := h₆
        exact stp F₆ N₆ ha₆ hJ₆
    exact hgo
  · have hin : i = items.size := by omega
    subst hin
    refine W.done _ _ _ hst' fun h₁ tk₁ hk₁ => wpAny_execs_nil ?_
    obtain ⟨F₁, N₁⟩ := next h₁ hk₁
    exact hR h₁ tk₁ m' news' F₁ N₁ ha' hJ
end
end Mine
end

section
open PySem PySem.W PyProof.Rows PySem.Calls PySem.Spec
set_option Elab.async false
set_option maxRecDepth 100000
set_option maxHeartbeats 4000000
namespace Mine
/-! The walk along the row, in plain words: lamps, text, kept, hold. -/
abbrev WSt := List Bool × List Nat × List Nat × List Nat
noncomputable def piece (turn : Nat) (it : Nat × Nat) : List Nat := List.replicate (2 ^ (it.2 - turn) - 1) 92 ++ [it.1]
noncomputable def lampsOf (l : List Bool) (it : Nat × Nat) : List Bool := if it.1 = 34 ∧ (l.take it.2).any (fun b => b) = false then l.set it.2 (!l.getD it.2 false) else l
noncomputable def wstep (turn : Nat) (st : WSt) (it : Nat × Nat) : WSt :=
  let l := lampsOf st.1 it
  if (st.1.take turn).any (fun b => b) = false ∧ (turn ≤ it.2 ∨ it.1 ≠ 34) then
    let p := piece turn it
    if it.1 = 34 ∧ it.2 = turn then (l, st.2.1 ++ p, st.2.2.1, if l.getD turn false = true then [it.1] else [])
    else if l.getD turn false = true then (l, st.2.1 ++ p, st.2.2.1, st.2.2.2 ++ p)
    else (l, st.2.1 ++ p, st.2.2.1 ++ p, st.2.2.2)
  else (l, st.2.1, st.2.2.1, st.2.2.2)
noncomputable def wInit : WSt := (List.replicate 5 false, [], [], [])
noncomputable def wfold (turn : Nat) (its : List (Nat × Nat)) : WSt := its.foldl (wstep turn) wInit
theorem lampsOf_len (l : List Bool) (it : Nat × Nat) : (lampsOf l it).length = l.length := by unfold lampsOf; split <;> simp
theorem wstep_len (turn : Nat) (st : WSt) (it : Nat × Nat) : (wstep turn st it).1.length = st.1.length := by
  unfold wstep
  dsimp only
  repeat' split
  all_goals exact lampsOf_len _ _
theorem wfold_lamps (turn : Nat) : ∀ (its : List (Nat × Nat)) (st : WSt), (its.foldl (wstep turn) st).1.length = st.1.length
  | [], _ => rfl
  | it :: r, st => by rw [List.foldl_cons, wfold_lamps turn r, wstep_len]
theorem piece_len {turn : Nat} {it : Nat × Nat} (h : it.2 ≤ 3) : (piece turn it).length ≤ 8 := by
  unfold piece
  rw [List.length_append, List.length_replicate]
  have : 2 ^ (it.2 - turn) ≤ 2 ^ 3 := Nat.pow_le_pow_right (by decide) (by omega)
  simp only [List.length_cons, List.length_nil]
  omega
theorem app_le {a b : List Nat} {n : Nat} (h : b.length ≤ n) : (a ++ b).length ≤ a.length + n := by rw [List.length_append]; exact Nat.add_le_add_left h _
theorem up8 {a b c n : Nat} (h1 : b ≤ a + 8) (h : c ≤ b + 8 * n) : c ≤ a + 8 * (n + 1) := by omega
theorem wstep_text {turn : Nat} {st : WSt} {it : Nat × Nat} (h : it.2 ≤ 3) : (wstep turn st it).2.1.length ≤ st.2.1.length + 8 ∧ (wstep turn st it).2.2.1.length ≤ st.2.2.1.length + 8 ∧ (wstep turn st it).2.2.2.length ≤ st.2.2.2.length + 8 := by
  have hp := piece_len (turn := turn) h
  unfold wstep
  dsimp only
  repeat' split
  all_goals exact ⟨by first | exact Nat.le_add_right _ _ | exact app_le hp, by first | exact Nat.le_add_right _ _ | exact app_le hp, by first | exact Nat.le_add_right _ _ | exact app_le hp | exact Nat.le_trans (show _ ≤ 8 from Nat.le_of_ble_eq_true rfl) (Nat.le_add_left 8 _)⟩
theorem wfold_text {turn : Nat} : ∀ (its : List (Nat × Nat)) (st : WSt), (∀ it ∈ its, it.2 ≤ 3) → (its.foldl (wstep turn) st).2.1.length ≤ st.2.1.length + 8 * its.length ∧ (its.foldl (wstep turn) st).2.2.1.length ≤ st.2.2.1.length + 8 * its.length ∧ (its.foldl (wstep turn) st).2.2.2.length ≤ st.2.2.2.length + 8 * its.length
  | [], _, _ => by simp
  | it :: r, st, h => by
    have ih := wfold_text (turn := turn) r (wstep turn st it) (fun x hx => h x (List.mem_cons_of_mem _ hx))
    have h1 := wstep_text (turn := turn) (st := st) (h it (List.mem_cons_self ..))
    rw [List.foldl_cons, List.length_cons]
    exact ⟨up8 h1.1 ih.1, up8 h1.2.1 ih.2.1, up8 h1.2.2 ih.2.2⟩

section
variable {prog : Program} {w : World} {A : Around} {E : Value → Shared → Prop} {s : Shared} {h₀ : Heap} {L l : Addr} {m : Str → Option Value} {news : List (Addr × Obj)} {value slice : Expr} {D : Addr} {n : Nat} {vs : List Value} {bs : List Bool}
open LSm
theorem boolsAre_take : ∀ {vs : List Value} {bs : List Bool}, BoolsAre vs bs → ∀ k : Nat, BoolsAre (vs.take k) (bs.take k)
  | _, _, .nil, k => by rw [List.take_nil, List.take_nil]; exact .nil
  | _, _, .cons _ _, 0 => .nil
  | _, _, .cons b h, k + 1 => .cons b (boolsAre_take h k)
theorem boolsAre_any : ∀ {vs : List Value} {bs : List Bool}, BoolsAre vs bs → vs.any (fun y => match y with | .bool b => b | _ => false) = bs.any (fun b => b)
  | _, _, .nil => rfl
  | _, _, .cons b h => by rw [List.any_cons, List.any_cons, boolsAre_any h]
theorem boolsAre_mem : ∀ {vs : List Value} {bs : List Bool}, BoolsAre vs bs → ∀ y ∈ vs, ∃ b, y = .bool b
  | _, _, .nil, y, h => by cases h
  | _, _, .cons b h, y, hy => by
    rcases List.mem_cons.mp hy with e | hy
    · exact ⟨b, e⟩
    · exact boolsAre_mem h y hy
theorem my_notin {Q : Value → Shared → Prop} (N : News h₀ L s.heap news) (hm : (D, W.listOf vs.toArray n) ∈ news) (hb : BoolsAre vs bs) (h : Q (.bool (!bs.any fun b => b)) s) :
    wpAny (model prog w) A (compareOp .NotIn (.bool true) (.ref D)) Q E s := by
  have hL : s.heap.IsList D vs.toArray := ⟨_, (N _ hm).1, rfl, _, rfl⟩
  refine SeqAt.notIn_listAt (fun y => match y with | .bool b => b | _ => false) hL (fun y hy => ?_) ?_
  · obtain ⟨b, rfl⟩ := boolsAre_mem hb y (by simpa using hy)
    have := SeqAt.EqAt.bool_bool (A := A.in1) (s := s) b true
    simpa using this
  · rw [List.any_toArray, boolsAre_any hb]
    exact h
theorem my_slice {k : Nat} {t : Tok} {Q : Value → Shared → Prop} (F : Fr h₀ L s.heap m) (N : News h₀ L s.heap news) (hm : (l, W.listOf vs.toArray n) ∈ news) (hb : BoolsAre vs bs) (hz : bs.length ≤ 100)
    (h : ∀ D h', Fr h₀ L h' m → News h₀ L h' ((D, W.listOf (vs.take k).toArray 0) :: news) → (∀ p ∈ news, p.1 < D) → BoolsAre (vs.take k) (bs.take k) → Q (.ref D) { s with heap := h' })
    (hs : subscripted slice false (.ref l) (.ref s.heap.objs.size) = operate [.ref s.heap.objs.size, .ref l] (getItem (.ref l) (.ref s.heap.objs.size))) (ht : ∀ r, letTemporaryGo value (.ref l) r = pure ()) :
    wpAny (model prog w) A (subscriptTail value slice (.ref l) (.ref s.heap.objs.size)) Q E { s with heap := s.heap.push { cls := .type "slice", data := .fields #[.none, .int (k : Int) t, .none] } } := by
  have hL : s.heap.IsList l vs.toArray := ⟨_, (N _ hm).1, rfl, _, rfl⟩
  have hl : vs.length = bs.length := hb.length
  refine kmk_slice_lit (zs := vs.take k) F N hL .none (.int _ _) ?_ (fun D h' F' N' l1 => h D h' F' N' l1 (boolsAre_take hb k)) hs ht (by rw [List.size_toArray, hl]; exact Nat.le_trans hz (by decide))
  have e : sliceBounds none (some (k : Int)) none vs.toArray.size = (((0 : Nat) : Int), ((min k vs.toArray.size : Nat) : Int), 1) := by
    simp only [sliceBounds, Option.getD_none, show (1 : Int) > 0 by decide, if_true, if_neg (show ¬ ((k : Int) < 0) by omega)]
    congr 1
    congr 1
    omega
  rw [kmk_pick_nat _ e]
  show (vs.drop 0).take (min k vs.toArray.size - 0) = _
  rw [List.drop_zero, Nat.sub_zero, List.size_toArray, kmk_take_min]
theorem n_init {turn : Nat} {its : List (Nat × Nat)} {vs : List Value} (h : BoolsAre vs (List.replicate (Int.toNat 5) [false]).flatten) : BoolsAre vs (wfold turn (its.take 0)).1 := h
theorem isList_of {h : Heap} {a : Array Value} (N : News h₀ L h news) (hm : (D, W.listOf a n) ∈ news) : h.IsList D a := ⟨_, (N _ hm).1, rfl, _, rfl⟩
theorem news_ne {h : Heap} {o : Obj} (N : News h₀ L h news) (hm : (D, o) ∈ news) : D ≠ h.objs.size := Nat.ne_of_lt (Heap.lt_size (N _ hm).1)
theorem fr_notin {h : Heap} {o : Obj} (F : Fr h₀ L h m) (N : News h₀ L h news) (hm : (D, o) ∈ news) : L ∉ [h.objs.size, D] := fun e => by
  rcases List.mem_cons.mp e with e | e
  · exact absurd F.ns.lt (by rw [← e]; exact Nat.lt_irrefl _)
  · exact (N _ hm).2.1 (List.mem_singleton.mp e).symm
theorem fr_fresh {h : Heap} (F : Fr h₀ L h m) : h₀.get? h.objs.size = none := Heap.get?_none_of_le (Nat.le_trans F.above (Nat.le_of_lt F.ns.lt))
theorem news_notin {h : Heap} (N : News h₀ L h news) : ∀ p ∈ news, p.1 ∉ [h.objs.size] := fun p hp e => absurd (Heap.lt_size (N _ hp).1) (by rw [List.mem_singleton.mp e]; exact Nat.lt_irrefl _)
end
end Mine
end

section
open PySem PySem.W PyProof.Rows PySem.Calls PySem.Spec
set_option Elab.async false
set_option maxRecDepth 100000
set_option maxHeartbeats 4000000
namespace Mine
/-- where a turn of the walk's loop ends -/
inductive WEnd (h₀ : Heap) (L : Addr) (own news : List (Addr × Obj)) (Dl : Addr) (turn : Nat) (t : Tok) (st : WSt) (s₁ : Shared) : Flow → Shared → Prop
  | mk (h : Heap) (tk : Nat) (vs : List Value) (m₂ : Str → Option Value) (t1 t2 t3 : Tok) (F : Fr h₀ L h m₂) (N : News h₀ L h ((Dl, W.listOf vs.toArray 0) :: (own ++ news))) (hb : LSm.BoolsAre vs st.1)
    (m1 : m₂ (Str.ofString "lamps") = some (.ref Dl)) (m2 : m₂ (Str.ofString "turn") = some (.int (turn : Int) t)) (m3 : m₂ (Str.ofString "text") = some (.str (S st.2.1) t1))
    (m4 : m₂ (Str.ofString "kept") = some (.str (S st.2.2.1) t2)) (m5 : m₂ (Str.ofString "hold") = some (.str (S st.2.2.2) t3)) : WEnd h₀ L own news Dl turn t st s₁ .next { s₁ with heap := h, toks := tk }
inductive WJ (Dl : Addr) (turn : Nat) (t : Tok) (its : List (Nat × Nat)) (news : List (Addr × Obj)) (i : Nat) (m₁ : Str → Option Value) : List (Addr × Obj) → Prop
  | mk (vs : List Value) (t1 t2 t3 : Tok) (hb : LSm.BoolsAre vs (wfold turn (its.take i)).1) (m1 : m₁ (Str.ofString "lamps") = some (.ref Dl)) (m2 : m₁ (Str.ofString "turn") = some (.int (turn : Int) t))
    (m3 : m₁ (Str.ofString "text") = some (.str (S (wfold turn (its.take i)).2.1) t1)) (m4 : m₁ (Str.ofString "kept") = some (.str (S (wfold turn (its.take i)).2.2.1) t2)) (m5 : m₁ (Str.ofString "hold") = some (.str (S (wfold turn (its.take i)).2.2.2) t3)) :
    WJ Dl turn t its news i m₁ ((Dl, W.listOf vs.toArray 0) :: news)
theorem upd_at {m : Str → Option Value} {x : Str} {v : Option Value} (h : m x = v) : (fun y => if y = x then v else m y) = m := by
  funext y
  split
  · rename_i e; rw [e, h]
  · rfl
theorem upd_pt {m : Str → Option Value} {x : Str} {v : Option Value} (h : m x = v) (y : Str) : (if y = x then v else m y) = m y := congrFun (upd_at h) y
theorem allLt_mem {d : Addr} : ∀ {l : List (Addr × Obj)}, AllLt d l → ∀ p ∈ l, p.1 < d
  | [], _, p, h => by cases h
  | q :: r, h, p, hp => by
    rcases List.mem_cons.mp hp with e | hp
    · rw [e]; exact h.1
    · exact allLt_mem h.2 p hp
theorem wfold_snoc {turn : Nat} {its : List (Nat × Nat)} {i : Nat} {it : Nat × Nat} (h : its[i]? = some it) : wfold turn (its.take (i + 1)) = wstep turn (wfold turn (its.take i)) it := by
  unfold wfold
  rw [List.take_add_one, h, List.foldl_append]
  rfl
section
variable {prog : Program} {w : World} {A : Around} {s : Shared} {env : Env} {h₀ : Heap}
open LSm
theorem forLoop_walk {R : Result → Shared → Prop} {body : List Stmt} {pk pv pt : Pos} {x1 : Nat} {Dl ax l' : Addr} {items : List Value} {its : List (Nat × Nat)} {turn nI : Nat} {t t0 t1 t2 : Tok} {vs0 : List Value}
    {m : Str → Option Value} {news news9 : List (Addr × Obj)}
    (hh : A.handled = none) (hxi : env.kindOf (Str.ofString "sign") = some .local) (hxc : env.kindOf (Str.ofString "depth") = some .local)
    (hp : (env.scope.kind == .class || (env.scope.kind == .module && env.locals != env.globals)) = false)
    (F : Fr h₀ env.locals s.heap m) (hlm : m (Str.ofString "lamps") = some (.ref Dl)) (htn : m (Str.ofString "turn") = some (.int (turn : Int) t))
    (htx : m (Str.ofString "text") = some (.str (S []) t0)) (hkp : m (Str.ofString "kept") = some (.str (S []) t1)) (hhd : m (Str.ofString "hold") = some (.str (S []) t2))
    (N : News h₀ env.locals s.heap news9) (hb0 : BoolsAre vs0 (List.replicate 5 false)) (hD : (Dl, W.listOf vs0.toArray 0) ∈ news9) (hsub : ∀ q ∈ news, q ∈ news9) (hlt : l' < Dl ∧ AllLt Dl news)
    (hax : (ax, W.listOf items.toArray nI) ∈ news)
    (hit : ∀ (i : Nat) (v : Value), items[i]? = some v → ∃ T t1 t2 sg dp, its[i]? = some (sg, dp) ∧ v = Value.ref T ∧ (T, tup [.str (S [sg]) t1, .int (dp : Nat) t2]) ∈ news)
    (hsz : its.length = items.length)
    (step : ∀ (i sg dp : Nat) (ts td t1 t2 t3 : Tok) (vs : List Value) (m₁ : Str → Option Value) (s₁ : Shared) (own : List (Addr × Obj)), (∃ h tk, s₁ = { s with heap := h, toks := tk }) → its[i]? = some (sg, dp) → BoolsAre vs (wfold turn (its.take i)).1 →
      Fr h₀ env.locals s₁.heap (fun y => if y = Str.ofString "depth" then some (.int (dp : Int) td) else if y = Str.ofString "sign" then some (.str (S [sg]) ts) else if y = Str.ofString "lamps" then some (.ref Dl) else
        if y = Str.ofString "turn" then some (.int (turn : Int) t) else if y = Str.ofString "text" then some (.str (S (wfold turn (its.take i)).2.1) t1) else if y = Str.ofString "kept" then some (.str (S (wfold turn (its.take i)).2.2.1) t2) else
        if y = Str.ofString "hold" then some (.str (S (wfold turn (its.take i)).2.2.2) t3) else m₁ y) →
      News h₀ env.locals s₁.heap ((Dl, W.listOf vs.toArray 0) :: (own ++ news)) → (∀ p ∈ own ++ news, p.1 ≠ Dl) →
      wpAny (model prog w) A (execs body env) (WEnd h₀ env.locals own news Dl turn t (wstep turn (wfold turn (its.take i)) (sg, dp)) s₁) (fun _ _ => False) s₁)
    (hR : ∀ h' tk m' (vs : List Value) t1 t2 t3, Fr h₀ env.locals h' m' → News h₀ env.locals h' ((Dl, W.listOf vs.toArray 0) :: news) → m' (Str.ofString "text") = some (.str (S (wfold turn its).2.1) t1) → m' (Str.ofString "kept") = some (.str (S (wfold turn its).2.2.1) t2) →
      m' (Str.ofString "hold") = some (.str (S (wfold turn its).2.2.2) t3) → R (.ok .next) { s with heap := h', toks := tk }) :
    codeAny (model prog w) A (.forLoop (.Tuple [.Name (Str.ofString "sign") pk, .Name (Str.ofString "depth") pv] x1 pt) (.ref s.heap.objs.size) body [] env) R { s with heap := s.heap.push { cls := .type "list_iterator", data := .fields #[.ref ax, .int 0 0] } } := by
  have hax9 := hsub _ hax
  have N0 : News h₀ env.locals s.heap ((Dl, W.listOf vs0.toArray 0) :: news) := fun q hq => N q ((List.mem_cons.mp hq).elim (fun e => e ▸ hD) (hsub q))
  have hLt : ∀ p ∈ news, p.1 ≠ Dl := fun p hp => Nat.ne_of_lt (allLt_mem hlt.2 p hp)
  refine forLoop_pairs hh hxi hxc hp (items := items.toArray) (ax := ax) (P2 := fun (i : Nat) v0 v1 => ∃ sg dp t1 t2, its[i]? = some (sg, dp) ∧ v0 = .str (S [sg]) t1 ∧ v1 = .int (dp : Nat) t2)
    (news_ne N hax9) (fr_notin F N hax9) (fr_fresh F) (news_notin N0) ⟨⟨_, Heap.get?_push_size _ rfl, rfl, rfl⟩, isList_of (n := nI) (news_sub (news := news) (News.push F N0 _) (fun q hq => List.mem_cons_of_mem _ (List.mem_cons_of_mem _ hq))) hax⟩
    (F.push _) (news_sub (News.push F N0 _) (fun q hq => List.mem_cons_of_mem _ hq)) (WJ Dl turn t its news) (.mk vs0 t0 t1 t2 hb0 hlm htn htx hkp hhd) ?_ ?_ ?_
  · intro i v m₁ news₁ hv hJ
    cases hJ
    refine hide fun G9 k9 => ?_
    obtain ⟨T, u1, u2, sg, dp, h1, h2, h3⟩ := hit i v (by simpa using hv)
    refine k9 ?_
    exact ⟨T, _, _, h2, List.mem_cons_of_mem _ h3, sg, dp, u1, u2, h1, rfl, rfl⟩
  · intro i v0 v1 m₁ news₁ s₁ own hs1 hi hP hJ hm hown F₁ N₁
    cases hJ with
    | mk vs u1 u2 u3 hb m1 m2 m3 m4 m5 =>
    refine hide fun G9 k9 => ?_
    obtain ⟨h, tk, es1⟩ := hs1
    obtain ⟨sg, dp, ts, td, hits, ev0, ev1⟩ := hP
    subst es1 ev0 ev1
    refine k9 ?_
    clear k9
    have hne : ∀ p ∈ own ++ news, p.1 ≠ Dl := fun p hp => (List.mem_append.mp hp).elim (fun hq e => by
      rcases List.mem_cons.mp (hown p hq) with q | q
      · exact (news_ne N hD) (e.symm.trans q)
      · exact Nat.ne_of_lt (allLt_mem hlt.2 _ hax) ((List.mem_singleton.mp q).symm.trans e)) (hLt p)
    have F₂ := F₁
    rw [show m₁ = (fun y => if y = Str.ofString "lamps" then some (.ref Dl) else if y = Str.ofString "turn" then some (.int (turn : Int) t) else if y = Str.ofString "text" then some (.str (S (wfold turn (its.take i)).2.1) u1) else if y = Str.ofString "kept" then some (.str (S (wfold turn (its.take i)).2.2.1) u2) else
        if y = Str.ofString "hold" then some (.str (S (wfold turn (its.take i)).2.2.2) u3) else m₁ y) from funext fun y => by rw [upd_pt m5, upd_pt m4, upd_pt m3, upd_pt m2, upd_pt m1]] at F₂
    refine wpAny_mono (step i sg dp ts td u1 u2 u3 vs m₁ _ own ⟨_, _, rfl⟩ hits hb F₂ (fun q hq => N₁ q (by
      rcases List.mem_cons.mp hq with e | hq
      · exact e ▸ List.mem_append_right _ (List.mem_cons_self ..)
      · exact (List.mem_append.mp hq).elim (fun z => List.mem_append_left _ z) (fun z => List.mem_append_right _ (List.mem_cons_of_mem _ z)))) hne) (fun f s' he => ?_) (fun _ _ z => z.elim)
    cases he with
    | mk h' tk' vs' m₂ t1' t2' t3' F' N' hb' e1 e2 e3 e4 e5 =>
    refine ⟨rfl, h', tk', m₂, (Dl, W.listOf vs'.toArray 0) :: news, rfl, F', fun q hq => N' q ?_, rfl, .mk vs' t1' t2' t3' ?_ e1 e2 ?_ ?_ ?_⟩
    · rcases List.mem_append.mp hq with z | z
      · exact List.mem_cons_of_mem _ (List.mem_append_left _ z)
      · rcases List.mem_cons.mp z with e | z
        · exact e ▸ List.mem_cons_self ..
        · exact List.mem_cons_of_mem _ (List.mem_append_right _ z)
    · rw [wfold_snoc hits]; exact hb'
    · rw [wfold_snoc hits]; exact e3
    · rw [wfold_snoc hits]; exact e4
    · rw [wfold_snoc hits]; exact e5
  · intro h' tk m' news' F' N' hm hJ
    cases hJ with
    | mk vs u1 u2 u3 hb m1 m2 m3 m4 m5 =>
    have e : its.take items.toArray.size = its := List.take_of_length_le (by rw [List.size_toArray, hsz]; exact Nat.le_refl _)
    rw [e] at m3 m4 m5
    exact hR h' tk m' vs u1 u2 u3 F' N' m3 m4 m5
end
end Mine
namespace Mine
section
variable {prog : Program} {w : World} {A : Around} {E : Value → Shared → Prop} {s s₁ : Shared} {h₀ : Heap} {L : Addr} {m : Str → Option Value} {news newsX rest own : List (Addr × Obj)} {D : Addr} {n : Nat} {vs : List Value} {bs : List Bool} {k : Int} {t u : Tok}
open LSm
theorem mul_bs : ∀ n : Nat, n ≤ 7 → Txt.mul (Str.ofString "\\") (n : Int) = S (List.replicate n 92) := by
  intro n hn
  exact (by decide +kernel : ∀ n : Nat, n ≤ 7 → Txt.mul (Str.ofString "\\") (n : Int) = S (List.replicate n 92)) n hn
theorem my_mul {n : Nat} {Q : Value → Shared → Prop} (e : k = (n : Int)) (hn : n ≤ 7) (h : ∀ t' tk, Q (.str (S (List.replicate n 92)) t') { s with toks := tk }) :
    wpAny (model prog w) A (binaryOp .Mult (.str (Str.ofString "\\") t) (.int k u)) Q E s := by
  subst e
  refine SB.mul (mulOk_of 1 7 (by decide +kernel) (by omega) (by omega) (by decide) (by decide)) fun t' tk => ?_
  rw [mul_bs n hn]
  exact h t' tk
theorem my_add {a b : List Nat} {Q : Value → Shared → Prop} (hn : a.length + b.length ≤ 1000) (h : ∀ t' tk, Q (.str (S (a ++ b)) t') { s with toks := tk }) :
    wpAny (model prog w) A (binaryOp .Add (.str (S a) t) (.str (S b) u)) Q E s :=
  SB.add (fun t' tk => by rw [S_append]; exact h t' tk) (Nat.le_trans hn (by decide))
theorem my_iadd {a b : List Nat} {Q : Value → Shared → Prop} (hn : a.length + b.length ≤ 1000) (h : ∀ t' tk, Q (.str (S (a ++ b)) t') { s with toks := tk }) :
    wpAny (model prog w) A (inplaceOp .Add (.str (S a) t) (.str (S b) u)) Q E s :=
  SB.iadd (fun t' tk => by rw [S_append]; exact h t' tk) (Nat.le_trans hn (by decide))
theorem my_set {b : Bool} {dp : Nat} {Q : Unit → Shared → Prop} (F : Fr h₀ L s.heap m) (N : News h₀ L s.heap newsX) (hne : ∀ p ∈ rest, p.1 ≠ D) (hl : bs.length = 5) (hb : BoolsAre vs bs) (hd : dp ≤ 3)
    (hs : ∀ q ∈ (D, W.listOf vs.toArray 0) :: rest, q ∈ newsX)
    (h : ∀ h', Fr h₀ L h' m → News h₀ L h' ((D, W.listOf (vs.set dp (.bool b)).toArray 0) :: rest) → BoolsAre (vs.set dp (.bool b)) (bs.set dp b) → (bs.set dp b).length = 5 → Q () { s with heap := h' }) :
    wpAny (model prog w) A (setItem (.ref D) (.int (dp : Int) t) (.bool b)) Q E s :=
  kbo_set F (fun q hq => N q (hs q hq)) (Upd.head hne) hb (by omega) (by omega) (by omega) (fun h' F' N' hb' hl' => h h' F' N' hb' (hl'.trans hl))
theorem wEnd_of {h : Heap} {tk : Nat} {Dl : Addr} {turn : Nat} {st : WSt} {m₂ : Str → Option Value} {x3 x4 x5 : Str} {t1 t2 t3 : Tok}
    (F : Fr h₀ L h m₂) (N : News h₀ L h newsX) (m1 : m₂ (Str.ofString "lamps") = some (.ref Dl)) (m2 : m₂ (Str.ofString "turn") = some (.int (turn : Int) t)) (m3 : m₂ (Str.ofString "text") = some (.str x3 t1))
    (m4 : m₂ (Str.ofString "kept") = some (.str x4 t2)) (m5 : m₂ (Str.ofString "hold") = some (.str x5 t3)) (hb : BoolsAre vs bs) (hs : ∀ q ∈ (Dl, W.listOf vs.toArray 0) :: (own ++ news), q ∈ newsX)
    (e : bs = st.1 ∧ x3 = S st.2.1 ∧ x4 = S st.2.2.1 ∧ x5 = S st.2.2.2) : WEnd h₀ L own news Dl turn t st s₁ .next { s₁ with heap := h, toks := tk } := by
  obtain ⟨rfl, rfl, rfl, rfl⟩ := e
  exact .mk h tk vs m₂ t1 t2 t3 F (fun q hq => N q (hs q hq)) hb m1 m2 m3 m4 m5
theorem pow_eq {dp turn : Nat} (hd : dp ≤ 3) : (2 : Int) ^ (if (0 : Int) > (dp : Int) - (turn : Int) then (0 : Int) else (dp : Int) - (turn : Int)).toNat - 1 = ((2 ^ (dp - turn) - 1 : Nat) : Int) ∧ 2 ^ (dp - turn) - 1 ≤ 7 := by
  have e : (if (0 : Int) > (dp : Int) - (turn : Int) then (0 : Int) else (dp : Int) - (turn : Int)).toNat = dp - turn := by split <;> omega
  rw [e]
  exact (by decide +kernel : ∀ k : Nat, k ≤ 3 → (2 : Int) ^ k - 1 = ((2 ^ k - 1 : Nat) : Int) ∧ 2 ^ k - 1 ≤ 7) _ (by omega)
end
end Mine
namespace Mine
section
variable {lamps l' : List Bool} {text kept hold : List Nat} {sg dp turn : Nat}
theorem mk1 (h : (S [sg] == Str.ofString "\"") = true) : sg = 34 := by
  rw [q_str] at h
  have := S_inj (show S [sg] = S [34] from eq_of_beq h)
  simpa using this
theorem mk0 (h : (S [sg] == Str.ofString "\"") = false) : sg ≠ 34 := fun e => by
  subst e
  rw [q_str] at h
  have : (S [34] == (⟨#[34]⟩ : Str)) = true := by decide +kernel
  rw [this] at h; cases h
theorem lA (h : sg = 34) (h2 : ((lamps.take dp).any fun b => b) = true) : lampsOf lamps (sg, dp) = lamps := by
  unfold lampsOf; rw [if_neg]; rintro ⟨_, q⟩; dsimp only at q; rw [h2] at q; cases q
theorem lB (h : sg = 34) (h2 : ((lamps.take dp).any fun b => b) = false) : lampsOf lamps (sg, dp) = lamps.set dp (!lamps.getD ((dp : Nat) : Int).toNat false) := by
  unfold lampsOf; rw [if_pos ⟨h, h2⟩]; rfl
theorem lC (h : sg ≠ 34) : lampsOf lamps (sg, dp) = lamps := by unfold lampsOf; rw [if_neg]; rintro ⟨q, _⟩; exact h q
abbrev WFin (turn : Nat) (lamps : List Bool) (text kept hold : List Nat) (sg dp : Nat) (l' : List Bool) (x3 x4 x5 : Str) : Prop :=
  l' = (wstep turn (lamps, text, kept, hold) (sg, dp)).1 ∧ x3 = S (wstep turn (lamps, text, kept, hold) (sg, dp)).2.1 ∧ x4 = S (wstep turn (lamps, text, kept, hold) (sg, dp)).2.2.1 ∧ x5 = S (wstep turn (lamps, text, kept, hold) (sg, dp)).2.2.2
theorem v1 (hL : lampsOf lamps (sg, dp) = l') (hs : ((lamps.take turn).any fun b => b) = true) : WFin turn lamps text kept hold sg dp l' (S text) (S kept) (S hold) := by
  have e : wstep turn (lamps, text, kept, hold) (sg, dp) = (l', text, kept, hold) := by
    unfold wstep; dsimp only; rw [hL, if_neg]; rintro ⟨q, _⟩; rw [hs] at q; cases q
  unfold WFin; rw [e]; exact ⟨rfl, rfl, rfl, rfl⟩
theorem v6 (hL : lampsOf lamps (sg, dp) = l') (hm : sg = 34) (h : ¬ ((turn : Nat) : Int) ≤ ((dp : Nat) : Int)) : WFin turn lamps text kept hold sg dp l' (S text) (S kept) (S hold) := by
  have e : wstep turn (lamps, text, kept, hold) (sg, dp) = (l', text, kept, hold) := by
    unfold wstep; dsimp only; rw [hL, if_neg]; rintro ⟨_, q⟩; rcases q with q | q
    · omega
    · exact q hm
  unfold WFin; rw [e]; exact ⟨rfl, rfl, rfl, rfl⟩
theorem v2 (hL : lampsOf lamps (sg, dp) = l') (hs : ((lamps.take turn).any fun b => b) = false) (hm : sg = 34) (h2 : ((dp : Nat) : Int) = ((turn : Nat) : Int)) (hl : l'.getD ((turn : Nat) : Int).toNat false = true) :
    WFin turn lamps text kept hold sg dp l' (S (text ++ (List.replicate (2 ^ (dp - turn) - 1) 92 ++ [sg]))) (S kept) (S [sg]) := by
  have hl' : l'.getD turn false = true := hl
  have hd : dp = turn := by omega
  have e : wstep turn (lamps, text, kept, hold) (sg, dp) = (l', text ++ piece turn (sg, dp), kept, [sg]) := by
    unfold wstep; dsimp only; rw [hL, if_pos ⟨hs, .inl (by omega)⟩, if_pos ⟨hm, hd⟩, if_pos hl']
  unfold WFin; rw [e]; exact ⟨rfl, rfl, rfl, rfl⟩
theorem v3 (hL : lampsOf lamps (sg, dp) = l') (hs : ((lamps.take turn).any fun b => b) = false) (hm : sg = 34) (h2 : ((dp : Nat) : Int) = ((turn : Nat) : Int)) (hl : l'.getD ((turn : Nat) : Int).toNat false = false) :
    WFin turn lamps text kept hold sg dp l' (S (text ++ (List.replicate (2 ^ (dp - turn) - 1) 92 ++ [sg]))) (S kept) (Str.ofString "") := by
  have hl' : ¬ l'.getD turn false = true := by intro q; have : l'.getD turn false = false := hl; rw [this] at q; cases q
  have hd : dp = turn := by omega
  have e : wstep turn (lamps, text, kept, hold) (sg, dp) = (l', text ++ piece turn (sg, dp), kept, []) := by
    unfold wstep; dsimp only; rw [hL, if_pos ⟨hs, .inl (by omega)⟩, if_pos ⟨hm, hd⟩, if_neg hl']
  unfold WFin; rw [e]; exact ⟨rfl, rfl, rfl, by show Str.ofString "" = S []; decide +kernel⟩
theorem v4 (hL : lampsOf lamps (sg, dp) = l') (hs : ((lamps.take turn).any fun b => b) = false) (hm : (((turn : Nat) : Int) ≤ ((dp : Nat) : Int) ∧ ((dp : Nat) : Int) ≠ ((turn : Nat) : Int)) ∨ sg ≠ 34) (hl : l'.getD ((turn : Nat) : Int).toNat false = true) :
    WFin turn lamps text kept hold sg dp l' (S (text ++ (List.replicate (2 ^ (dp - turn) - 1) 92 ++ [sg]))) (S kept) (S (hold ++ (List.replicate (2 ^ (dp - turn) - 1) 92 ++ [sg]))) := by
  have hl' : l'.getD turn false = true := hl
  have e : wstep turn (lamps, text, kept, hold) (sg, dp) = (l', text ++ piece turn (sg, dp), kept, hold ++ piece turn (sg, dp)) := by
    unfold wstep; dsimp only; rw [hL, if_pos ⟨hs, by rcases hm with q | q; exact .inl (by omega); exact .inr q⟩, if_neg (by rintro ⟨a, b⟩; rcases hm with q | q; exact q.2 (by omega); exact q a), if_pos hl']
  unfold WFin; rw [e]; exact ⟨rfl, rfl, rfl, rfl⟩
theorem v5 (hL : lampsOf lamps (sg, dp) = l') (hs : ((lamps.take turn).any fun b => b) = false) (hm : (((turn : Nat) : Int) ≤ ((dp : Nat) : Int) ∧ ((dp : Nat) : Int) ≠ ((turn : Nat) : Int)) ∨ sg ≠ 34) (hl : l'.getD ((turn : Nat) : Int).toNat false = false) :
    WFin turn lamps text kept hold sg dp l' (S (text ++ (List.replicate (2 ^ (dp - turn) - 1) 92 ++ [sg]))) (S (kept ++ (List.replicate (2 ^ (dp - turn) - 1) 92 ++ [sg]))) (S hold) := by
  have hl' : ¬ l'.getD turn false = true := by intro q; have : l'.getD turn false = false := hl; rw [this] at q; cases q
  have e : wstep turn (lamps, text, kept, hold) (sg, dp) = (l', text ++ piece turn (sg, dp), kept ++ piece turn (sg, dp), hold) := by
    unfold wstep; dsimp only; rw [hL, if_pos ⟨hs, by rcases hm with q | q; exact .inl (by omega); exact .inr q⟩, if_neg (by rintro ⟨a, b⟩; rcases hm with q | q; exact q.2 (by omega); exact q a), if_neg hl']
  unfold WFin; rw [e]; exact ⟨rfl, rfl, rfl, rfl⟩
end
end Mine
end

section
open PySem PySem.W PyProof.Rows PySem.Calls PySem.Spec
set_option Elab.async false
set_option maxRecDepth 100000
set_option maxHeartbeats 4000000
namespace Mine
/-! The plain law: strip, lex and walk on lists of code points. -/
mutual
/-- outside of marks -/
noncomputable def outF : Bool → List Nat → List Nat
  | _, [] => []
  | true, c :: r => c :: outF false r
  | false, c :: r => if c = 92 then 92 :: outF true r else if c = 34 then inF false [34] r else c :: outF false r
/-- behind an open mark, with what is pending -/
noncomputable def inF : Bool → List Nat → List Nat → List Nat
  | _, p, [] => p
  | true, p, c :: r => inF false (p ++ [c]) r
  | false, p, c :: r => if c = 92 then inF true (p ++ [92]) r else if c = 34 then outF false r else inF false (p ++ [c]) r
end
/-- one word: its signs, and how many signs are left unread -/
noncomputable def lexF : Bool → List Nat → List Nat × Nat
  | _, [] => ([], 0)
  | true, c :: r => (c :: (lexF false r).1, (lexF false r).2)
  | false, c :: r => if c = 34 then ([], r.length) else if c = 92 then lexF true r else (c :: (lexF false r).1, (lexF false r).2)

theorem out_run : ∀ (m : Nat) (x : List Nat), outF false (List.replicate (2 * m) 92 ++ x) = List.replicate (2 * m) 92 ++ outF false x
  | 0, x => rfl
  | m + 1, x => by
    rw [show 2 * (m + 1) = 2 * m + 1 + 1 by omega, List.replicate_succ, List.replicate_succ, List.cons_append, List.cons_append]
    rw [outF, if_pos rfl, outF, out_run m x, List.cons_append, List.cons_append]
theorem in_run : ∀ (m : Nat) (p x : List Nat), inF false p (List.replicate (2 * m) 92 ++ x) = inF false (p ++ List.replicate (2 * m) 92) x
  | 0, p, x => by simp
  | m + 1, p, x => by
    rw [show 2 * (m + 1) = 2 * m + 1 + 1 by omega, List.replicate_succ, List.replicate_succ, List.cons_append, List.cons_append]
    rw [inF, if_pos rfl, inF, in_run m]
    congr 1
    simp
theorem lex_run : ∀ (m : Nat) (x : List Nat), lexF false (List.replicate (2 * m) 92 ++ x) = (List.replicate m 92 ++ (lexF false x).1, (lexF false x).2)
  | 0, x => rfl
  | m + 1, x => by
    rw [show 2 * (m + 1) = 2 * m + 1 + 1 by omega, List.replicate_succ, List.replicate_succ, List.cons_append, List.cons_append]
    rw [lexF, if_neg (by decide), if_pos rfl, lexF, lex_run m x]
    rfl
/-- a sign with its backslashes: not a bare mark -/
def Whole (k sg : Nat) : Prop := sg ≠ 92 ∧ (sg = 34 → 1 ≤ k)
noncomputable def pc (k sg : Nat) : List Nat := List.replicate (2 ^ k - 1) 92 ++ [sg]
theorem pc_succ (k sg : Nat) : pc (k + 1) sg = List.replicate (2 * (2 ^ k - 1)) 92 ++ (92 :: [sg]) := by
  unfold pc
  have h : 0 < 2 ^ k := Nat.pos_of_ne_zero (by simp)
  rw [show 2 ^ (k + 1) - 1 = 2 * (2 ^ k - 1) + 1 by rw [Nat.pow_succ]; omega, List.replicate_succ', List.append_assoc]
  rfl
theorem out_pc {k sg : Nat} (h : Whole k sg) (x : List Nat) : outF false (pc k sg ++ x) = pc k sg ++ outF false x := by
  cases k with
  | zero =>
    have h1 : sg ≠ 34 := fun e => absurd (h.2 e) (by decide)
    show outF false (sg :: x) = sg :: outF false x
    rw [outF, if_neg h.1, if_neg h1]
  | succ k =>
    rw [pc_succ, List.append_assoc, out_run]
    show _ ++ outF false (92 :: sg :: x) = _
    rw [outF, if_pos rfl, outF, List.append_assoc]
    rfl
theorem in_pc {k sg : Nat} (h : Whole k sg) (p x : List Nat) : inF false p (pc k sg ++ x) = inF false (p ++ pc k sg) x := by
  cases k with
  | zero =>
    have h1 : sg ≠ 34 := fun e => absurd (h.2 e) (by decide)
    show inF false p (sg :: x) = inF false (p ++ [sg]) x
    rw [inF, if_neg h.1, if_neg h1]
  | succ k =>
    rw [pc_succ, List.append_assoc, in_run]
    show inF false _ (92 :: sg :: x) = _
    rw [inF, if_pos rfl, inF]
    congr 1
    simp
theorem lex_pc {k sg : Nat} (h : Whole k sg) (x : List Nat) : lexF false (pc k sg ++ x) = (pc (k - 1) sg ++ (lexF false x).1, (lexF false x).2) := by
  cases k with
  | zero =>
    have h1 : sg ≠ 34 := fun e => absurd (h.2 e) (by decide)
    show lexF false (sg :: x) = (sg :: (lexF false x).1, (lexF false x).2)
    rw [lexF, if_neg h1, if_neg h.1]
  | succ k =>
    rw [pc_succ, List.append_assoc, lex_run]
    show (_ ++ (lexF false (92 :: sg :: x)).1, (lexF false (92 :: sg :: x)).2) = _
    rw [lexF, if_neg (by decide), if_pos rfl, lexF]
    show (_ ++ sg :: (lexF false x).1, (lexF false x).2) = _
    unfold pc
    rw [Nat.add_sub_cancel, List.append_assoc]
    rfl

/-- what holds between the rounds r and r + 1 after some items -/
structure Rel (r : Nat) (a b : WSt) : Prop where
  same : a.1 = b.1
  five : a.1.length = 5
  strip : ∀ x, outF false (a.2.1 ++ x) = a.2.2.1 ++ (if a.1.getD r false = true then inF false a.2.2.2 x else outF false x)
  hold : if a.1.getD r false = true then ∃ h, a.2.2.2 = 34 :: h else a.2.2.2 = []
  lex : ∀ x, lexF false (a.2.2.1 ++ x) = (b.2.1 ++ (lexF false x).1, (lexF false x).2)

theorem piece_pc (r : Nat) (it : Nat × Nat) : piece r it = pc (it.2 - r) it.1 := rfl
theorem take_any_succ {l : List Bool} {r : Nat} (hr : r < l.length) : ((l.take (r + 1)).any fun b => b) = (((l.take r).any fun b => b) || l.getD r false) := by
  rw [List.take_succ_eq_append_getElem hr, List.any_append, List.getD_eq_getElem?_getD, List.getElem?_eq_getElem hr]
  simp

theorem wstep_1 (t : Nat) (st : WSt) (it : Nat × Nat) : (wstep t st it).1 = lampsOf st.1 it := by
  unfold wstep; dsimp only; repeat' split
  all_goals rfl
theorem wstep_in {t : Nat} {st : WSt} {it : Nat × Nat} (h : (st.1.take t).any (fun b => b) = false ∧ (t ≤ it.2 ∨ it.1 ≠ 34)) : (wstep t st it).2.1 = st.2.1 ++ piece t it := by
  unfold wstep; dsimp only; rw [if_pos h]; repeat' split
  all_goals rfl
theorem wstep_out {t : Nat} {st : WSt} {it : Nat × Nat} (h : ¬ ((st.1.take t).any (fun b => b) = false ∧ (t ≤ it.2 ∨ it.1 ≠ 34))) : wstep t st it = (lampsOf st.1 it, st.2.1, st.2.2.1, st.2.2.2) := by
  unfold wstep; dsimp only; rw [if_neg h]
theorem lamp_keep {l : List Bool} {it : Nat × Nat} {r : Nat} (h : ¬ (it.1 = 34 ∧ it.2 = r ∧ ((l.take r).any fun b => b) = false)) : (lampsOf l it).getD r false = l.getD r false := by
  unfold lampsOf
  split
  · rename_i q
    have hne : it.2 ≠ r := fun e => h ⟨q.1, e, e ▸ q.2⟩
    rw [List.getD_eq_getElem?_getD, List.getElem?_set_ne hne, ← List.getD_eq_getElem?_getD]
  · rfl
theorem lamp_turn {l : List Bool} {it : Nat × Nat} {r : Nat} (h : it.1 = 34 ∧ it.2 = r ∧ ((l.take r).any fun b => b) = false) (hr : r < l.length) : (lampsOf l it).getD r false = !l.getD r false := by
  obtain ⟨h1, rfl, h3⟩ := h
  unfold lampsOf
  rw [if_pos ⟨h1, h3⟩, List.getD_eq_getElem?_getD, List.getElem?_set_self hr]
  rfl
/-- one item more -/
theorem Rel.step {r : Nat} {a b : WSt} (R : Rel r a b) {it : Nat × Nat} (hr : r < 5) (hs : it.1 ≠ 92) : Rel r (wstep r a it) (wstep (r + 1) b it) := by
  obtain ⟨al, at_, ak, ah⟩ := a
  obtain ⟨bl, bt, bk, bh⟩ := b
  obtain ⟨h1, h2, h3, h4, h5⟩ := R
  dsimp only at h1 h2 h3 h4 h5
  subst h1
  have hlen : (lampsOf al it).length = 5 := (lampsOf_len al it).trans h2
  have hta := take_any_succ (l := al) (r := r) (by omega)
  have b1 := wstep_1 (r + 1) (al, bt, bk, bh) it
  by_cases hsh : ((al.take r).any fun b => b) = false
  · by_cases hbare : it.1 = 34 ∧ it.2 = r
    · -- the lamp turns
      have hl := lamp_turn (l := al) (r := r) ⟨hbare.1, hbare.2, hsh⟩ (by omega)
      have eb := wstep_out (t := r + 1) (st := (al, bt, bk, bh)) (it := it) (fun q => by rcases q.2 with q | q; omega; exact q hbare.1)
      have ep : piece r it = [34] := by unfold piece; rw [hbare.1, hbare.2, Nat.sub_self]; rfl
      have ea : wstep r (al, at_, ak, ah) it = (lampsOf al it, at_ ++ [34], ak, if (lampsOf al it).getD r false = true then [34] else []) := by
        unfold wstep; dsimp only; rw [if_pos ⟨hsh, .inl (by omega)⟩, if_pos hbare, ep, hbare.1]
      rw [ea, eb]
      refine ⟨rfl, hlen, fun x => ?_, ?_, h5⟩
      · dsimp only
        rw [List.append_assoc, h3, hl]
        cases hlit : al.getD r false with
        | true =>
          simp only [if_true, Bool.not_true, Bool.false_eq_true, if_false]
          show ak ++ inF false ah (34 :: x) = _
          rw [inF, if_neg (by decide), if_pos rfl]
        | false =>
          simp only [if_true, Bool.not_false, Bool.false_eq_true, if_false]
          show ak ++ outF false (34 :: x) = _
          rw [outF, if_neg (by decide), if_pos rfl]
      · dsimp only
        split
        · exact ⟨[], rfl⟩
        · rfl
    · have hl := lamp_keep (l := al) (it := it) (r := r) (fun q => hbare ⟨q.1, q.2.1⟩)
      by_cases hin : r ≤ it.2 ∨ it.1 ≠ 34
      · have hw : Whole (it.2 - r) it.1 := ⟨hs, fun e => by rcases hin with q | q; (have : it.2 ≠ r := fun z => hbare ⟨e, z⟩); omega; exact absurd e q⟩
        have hnb : ¬ (it.1 = 34 ∧ it.2 = r) := hbare
        cases hlit : al.getD r false with
        | true =>
          rw [hlit] at h3 h4
          simp only [if_true] at h3 h4
          have eb := wstep_out (t := r + 1) (st := (al, bt, bk, bh)) (it := it) (fun q => by have := q.1; dsimp only at this; rw [hta, hlit, Bool.or_true] at this; cases this)
          have ea : wstep r (al, at_, ak, ah) it = (lampsOf al it, at_ ++ piece r it, ak, ah ++ piece r it) := by
            unfold wstep; dsimp only; rw [if_pos ⟨hsh, hin⟩, if_neg hnb, if_pos (by rw [hl]; exact hlit)]
          rw [ea, eb]
          refine ⟨rfl, hlen, fun x => ?_, ?_, h5⟩
          · dsimp only
            rw [List.append_assoc, h3, hl, hlit, if_pos rfl, piece_pc, in_pc hw]
          · dsimp only
            rw [hl, hlit, if_pos rfl]
            obtain ⟨z, hz⟩ := h4
            exact ⟨z ++ piece r it, by rw [hz]; rfl⟩
        | false =>
          rw [hlit] at h3 h4
          simp only [Bool.false_eq_true, if_false] at h3 h4
          have eb := wstep_in (t := r + 1) (st := (al, bt, bk, bh)) (it := it) ⟨by dsimp only; rw [hta, hsh, hlit]; rfl, by
            by_cases e : it.1 = 34
            · rcases hin with q | q
              · have : it.2 ≠ r := fun z => hbare ⟨e, z⟩
                exact .inl (by omega)
              · exact absurd e q
            · exact .inr e⟩
          have ea : wstep r (al, at_, ak, ah) it = (lampsOf al it, at_ ++ piece r it, ak ++ piece r it, ah) := by
            unfold wstep; dsimp only; rw [if_pos ⟨hsh, hin⟩, if_neg hnb, if_neg (by rw [hl, hlit]; exact Bool.false_ne_true)]
          rw [ea]
          refine ⟨b1.symm, hlen, fun x => ?_, ?_, fun x => ?_⟩
          · dsimp only
            rw [List.append_assoc, h3, hl, hlit, if_neg Bool.false_ne_true, piece_pc, out_pc hw, List.append_assoc]
          · dsimp only
            rw [hl, hlit, if_neg Bool.false_ne_true]
            exact h4
          · dsimp only
            rw [eb, List.append_assoc, h5, piece_pc, lex_pc hw, piece_pc, List.append_assoc, Nat.sub_sub]
      · have ea := wstep_out (t := r) (st := (al, at_, ak, ah)) (it := it) (fun q => hin q.2)
        have eb := wstep_out (t := r + 1) (st := (al, bt, bk, bh)) (it := it) (fun q => hin (by rcases q.2 with z | z; exact .inl (by omega); exact .inr z))
        rw [ea, eb]
        exact ⟨rfl, hlen, fun x => by dsimp only; rw [h3, hl], by dsimp only; rw [hl]; exact h4, h5⟩
  · have hl := lamp_keep (l := al) (it := it) (r := r) (fun q => hsh q.2.2)
    have ea := wstep_out (t := r) (st := (al, at_, ak, ah)) (it := it) (fun q => hsh q.1)
    have eb := wstep_out (t := r + 1) (st := (al, bt, bk, bh)) (it := it) (fun q => by
      have := q.1
      dsimp only at this
      rw [hta] at this
      exact hsh (Bool.or_eq_false_iff.mp this).1)
    rw [ea, eb]
    exact ⟨rfl, hlen, fun x => by dsimp only; rw [h3, hl], by dsimp only; rw [hl]; exact h4, h5⟩

theorem Rel.start (r : Nat) (hr : r < 5) : Rel r wInit wInit := by
  have h : (List.replicate 5 false).getD r false = false := by
    rw [List.getD_eq_getElem?_getD, List.getElem?_replicate]
    split <;> rfl
  refine ⟨rfl, rfl, fun x => ?_, ?_, fun x => rfl⟩
  · show outF false x = _
    show _ = [] ++ (if (List.replicate 5 false).getD r false = true then _ else outF false x)
    rw [h, if_neg Bool.false_ne_true]; rfl
  · show if (List.replicate 5 false).getD r false = true then _ else _
    rw [h, if_neg Bool.false_ne_true]; rfl
theorem Rel.fold {r : Nat} (hr : r < 5) : ∀ (its : List (Nat × Nat)) {a b : WSt}, (∀ it ∈ its, it.1 ≠ 92) → Rel r a b → Rel r (its.foldl (wstep r) a) (its.foldl (wstep (r + 1)) b)
  | [], _, _, _, R => R
  | it :: rest, _, _, h, R => Rel.fold hr rest (fun x hx => h x (List.mem_cons_of_mem _ hx)) (R.step hr (h it (List.mem_cons_self ..)))
theorem rel_all {r : Nat} (hr : r < 5) {its : List (Nat × Nat)} (h : ∀ it ∈ its, it.1 ≠ 92) : Rel r (wfold r its) (wfold (r + 1) its) := Rel.fold hr its h (Rel.start r hr)

/-- striking out -/
theorem strip_round {r : Nat} (hr : r < 5) {its : List (Nat × Nat)} (h : ∀ it ∈ its, it.1 ≠ 92) : outF false (wfold r its).2.1 = (wfold r its).2.2.1 ++ (wfold r its).2.2.2 := by
  have R := rel_all hr h
  have e := R.strip []
  rw [List.append_nil] at e
  rw [e]
  have h4 := R.hold
  split
  · rfl
  · rename_i q
    rw [if_neg q] at h4
    rw [h4]; rfl
/-- reading one word -/
theorem lex_round {r : Nat} (hr : r < 5) {its : List (Nat × Nat)} (h : ∀ it ∈ its, it.1 ≠ 92) :
    lexF false ((wfold r its).2.2.1 ++ (wfold r its).2.2.2 ++ [34]) = ((wfold (r + 1) its).2.1, (wfold r its).2.2.2.length) := by
  have R := rel_all hr h
  rw [List.append_assoc, R.lex]
  have h4 := R.hold
  split at h4
  · obtain ⟨z, hz⟩ := h4
    rw [hz]
    show ((wfold (r + 1) its).2.1 ++ (lexF false (34 :: (z ++ [34]))).1, (lexF false (34 :: (z ++ [34]))).2) = _
    rw [lexF, if_pos rfl]
    simp
  · rw [h4]
    show ((wfold (r + 1) its).2.1 ++ (lexF false [34]).1, (lexF false [34]).2) = _
    rw [lexF, if_pos rfl]
    simp
end Mine
namespace Mine
/-! More of the plain law. -/
theorem wstep_text_or (t : Nat) (st : WSt) (it : Nat × Nat) : (wstep t st it).2.1 = st.2.1 ∨ (wstep t st it).2.1 = st.2.1 ++ piece t it := by
  by_cases h : (st.1.take t).any (fun b => b) = false ∧ (t ≤ it.2 ∨ it.1 ≠ 34)
  · exact .inr (wstep_in h)
  · rw [wstep_out h]; exact .inl rfl
theorem alph_piece {t : Nat} {it : Nat × Nat} (h : it.1 = 34 ∨ (48 ≤ it.1 ∧ it.1 ≤ 57)) : Alph (piece t it) := fun c hc => by
  rcases List.mem_append.mp hc with q | q
  · exact .inr (.inl (List.eq_of_mem_replicate q))
  · rw [List.mem_singleton.mp q]
    exact h.elim .inl fun z => .inr (.inr z)
theorem alph_text {t : Nat} : ∀ (its : List (Nat × Nat)) (st : WSt), (∀ it ∈ its, it.1 = 34 ∨ (48 ≤ it.1 ∧ it.1 ≤ 57)) → Alph st.2.1 → Alph (its.foldl (wstep t) st).2.1
  | [], _, _, ha => ha
  | it :: r, st, h, ha => by
    rw [List.foldl_cons]
    refine alph_text r _ (fun x hx => h x (List.mem_cons_of_mem _ hx)) ?_
    rcases wstep_text_or t st it with e | e <;> rw [e]
    · exact ha
    · exact ha.append (alph_piece (h it (List.mem_cons_self ..)))
theorem text_grows {t : Nat} : ∀ (its : List (Nat × Nat)) (st : WSt), ∃ x, (its.foldl (wstep t) st).2.1 = st.2.1 ++ x
  | [], st => ⟨[], (List.append_nil _).symm⟩
  | it :: r, st => by
    obtain ⟨x, hx⟩ := text_grows r (wstep t st it)
    rw [List.foldl_cons, hx]
    rcases wstep_text_or t st it with e | e <;> rw [e]
    · exact ⟨x, rfl⟩
    · exact ⟨piece t it ++ x, List.append_assoc ..⟩
/-- every row begins with the figure 1 -/
theorem text_one {t : Nat} (its : List (Nat × Nat)) : ∃ x, (wfold t ((49, 0) :: its)).2.1 = 49 :: x := by
  have e : (wstep t wInit (49, 0)).2.1 = [49] := by
    have h := wstep_in (t := t) (st := wInit) (it := (49, 0)) ⟨by
      show ((List.replicate 5 false).take t).any (fun b => b) = false
      rw [List.take_replicate, List.any_replicate]; split <;> rfl, .inr (by decide)⟩
    rw [h]
    show [] ++ piece t (49, 0) = _
    unfold piece
    rw [Nat.zero_sub]; rfl
  obtain ⟨x, hx⟩ := text_grows (t := t) its (wstep t wInit (49, 0))
  exact ⟨x, by unfold wfold; rw [List.foldl_cons, hx, e]; rfl⟩
theorem text_zero : ∀ (its : List (Nat × Nat)) (st : WSt), (its.foldl (wstep 0) st).2.1 = st.2.1 ++ (its.map fun it => pc it.2 it.1).flatten
  | [], st => (List.append_nil _).symm
  | it :: r, st => by
    rw [List.foldl_cons, text_zero r, wstep_in ⟨rfl, .inl (Nat.zero_le _)⟩]
    rw [List.map_cons, List.flatten_cons, List.append_assoc]
    rfl
/-- the fifth round changes nothing -/
theorem text_last : ∀ (its : List (Nat × Nat)) (a b : WSt), (∀ it ∈ its, it.2 ≤ 3) → a.1 = b.1 → a.1.length = 5 → a.1.getD 4 false = false → a.2.1 = b.2.1 → (its.foldl (wstep 5) a).2.1 = (its.foldl (wstep 4) b).2.1
  | [], _, _, _, _, _, _, e => e
  | it :: r, a, b, h, h1, h5, h4, e => by
    have hd := h it (List.mem_cons_self ..)
    rw [List.foldl_cons, List.foldl_cons]
    have hk := lamp_keep (l := a.1) (it := it) (r := 4) (fun q => by omega)
    refine text_last r _ _ (fun x hx => h x (List.mem_cons_of_mem _ hx)) (by rw [wstep_1, wstep_1, h1]) (by rw [wstep_1, lampsOf_len]; exact h5) (by rw [wstep_1, hk]; exact h4) ?_
    have hta := take_any_succ (l := a.1) (r := 4) (by omega)
    rw [h4, Bool.or_false] at hta
    by_cases hs : ((a.1.take 4).any fun b => b) = false ∧ it.1 ≠ 34
    · rw [wstep_in ⟨by rw [hta]; exact hs.1, .inr hs.2⟩, wstep_in (st := b) ⟨by rw [← h1]; exact hs.1, .inr hs.2⟩, e]
      unfold piece
      rw [show it.2 - 5 = 0 by omega, show it.2 - 4 = 0 by omega]
    · rw [wstep_out (fun q => hs ⟨by rw [← hta]; exact q.1, by rcases q.2 with z | z; omega; exact z⟩), wstep_out (st := b) (fun q => hs ⟨by rw [h1]; exact q.1, by rcases q.2 with z | z; omega; exact z⟩)]
      exact e
theorem text_five {its : List (Nat × Nat)} (h : ∀ it ∈ its, it.2 ≤ 3) : (wfold 5 its).2.1 = (wfold 4 its).2.1 := text_last its wInit wInit h rfl rfl rfl rfl
/-- no mark: nothing is struck out -/
theorem out_free : ∀ (l : List Nat) (e : Bool), 34 ∉ l → outF e l = l
  | [], true, _ => rfl
  | [], false, _ => rfl
  | c :: r, true, h => by rw [outF, out_free r false (fun q => h (List.mem_cons_of_mem _ q))]
  | c :: r, false, h => by
    have h1 : c ≠ 34 := fun e => h (e ▸ List.mem_cons_self ..)
    have h2 : 34 ∉ r := fun q => h (List.mem_cons_of_mem _ q)
    rw [outF]
    split
    · rename_i e; rw [out_free r true h2, e]
    · first | rw [if_neg h1, out_free r false h2] | rw [out_free r false h2]
theorem text_bound {t : Nat} {its : List (Nat × Nat)} (h : ∀ it ∈ its, it.2 ≤ 3) (hl : its.length ≤ 13) : (wfold t its).2.1.length ≤ 104 ∧ (wfold t its).2.2.1.length ≤ 104 ∧ (wfold t its).2.2.2.length ≤ 104 := by
  have := wfold_text (turn := t) its wInit h
  change (wfold t its).2.1.length ≤ 0 + _ ∧ (wfold t its).2.2.1.length ≤ 0 + _ ∧ (wfold t its).2.2.2.length ≤ 0 + _ at this
  omega
end Mine
end

section
open PySem PySem.W PyProof.Rows PySem.Calls PySem.Spec
set_option Elab.async false
set_option maxRecDepth 100000
set_option maxHeartbeats 4000000
namespace Mine
/-! What the escaped characters are, and what striking out makes of them. -/
noncomputable def escF : Bool → Nat → List Nat → List (Nat × List Nat)
  | true, i, [] => [(i - 1, [92])]
  | false, _, [] => []
  | true, i, c :: r => (i, [92, c]) :: escF false (i + 1) r
  | false, i, c :: r => if c = 92 then escF true (i + 1) r else (i, [c]) :: escF false (i + 1) r
abbrev StSt := Nat × Option Nat × List (List Nat)
noncomputable def stStep (l : List Nat) (st : StSt) (it : Nat × List Nat) : StSt :=
  if it.2 = [34] then match st.2.1 with
    | none => (st.1, some it.1, st.2.2)
    | some o => (it.1 + 1, none, if st.1 = o then st.2.2 else st.2.2 ++ [(l.drop st.1).take (o - st.1)])
  else st
noncomputable def stFin (l : List Nat) (st : StSt) : List (List Nat) := if st.1 < l.length then st.2.2 ++ [l.drop st.1] else st.2.2
def stOk (k : Nat) (st : StSt) : Prop := st.1 ≤ k ∧ ∀ o, st.2.1 = some o → st.1 ≤ o ∧ o < k
theorem escF_pos : ∀ (r : List Nat) (e : Bool) (i : Nat), (e = true → 1 ≤ i) → ∀ it ∈ escF e i r, it.1 < i + r.length
  | [], true, i, h, it, hm => by
    rw [escF] at hm
    rw [List.mem_singleton.mp hm]
    have := h rfl
    show i - 1 < i + 0
    omega
  | [], false, i, _, it, hm => by rw [escF] at hm; cases hm
  | c :: r, true, i, _, it, hm => by
    rw [escF] at hm
    rw [List.length_cons]
    rcases List.mem_cons.mp hm with e | hm
    · rw [e]; show i < _; omega
    · have := escF_pos r false (i + 1) (fun _ => by omega) it hm
      omega
  | c :: r, false, i, _, it, hm => by
    rw [escF] at hm
    rw [List.length_cons]
    split at hm
    · have := escF_pos r true (i + 1) (fun _ => by omega) it hm
      omega
    · rcases List.mem_cons.mp hm with e | hm
      · rw [e]; show i < _; omega
      · have := escF_pos r false (i + 1) (fun _ => by omega) it hm
        omega
theorem slice_flat {res : List (List Nat)} {l : List Nat} {a o : Nat} : (if a = o then res else res ++ [(l.drop a).take (o - a)]).flatten = res.flatten ++ (l.drop a).take (o - a) := by
  split
  · rename_i e; subst e; simp
  · simp
/-- what the fold over the rest makes -/
def StripG (l r pre : List Nat) (e : Bool) (a : Nat) (op : Option Nat) (res : List (List Nat)) : Prop :=
  (stFin l ((escF e pre.length r).foldl (stStep l) (a, op, res))).flatten = res.flatten ++ (match op with
    | none => pre.drop a ++ outF e r
    | some o => (pre.drop a).take (o - a) ++ inF e (pre.drop o) r)
theorem strip_nil {l : List Nat} {e : Bool} {a : Nat} {op : Option Nat} {res : List (List Nat)} (hok : ∀ o, op = some o → a ≤ o) : StripG l [] l e a op res := by
  have h0 : (escF e l.length []).foldl (stStep l) (a, op, res) = (a, op, res) := by
    cases e with
    | true =>
      rw [escF, List.foldl_cons, List.foldl_nil]
      unfold stStep
      rw [if_neg (by simp)]
    | false => rw [escF]; rfl
  have h1 : (stFin l (a, op, res)).flatten = res.flatten ++ l.drop a := by
    unfold stFin
    dsimp only
    split
    · simp
    · rw [List.drop_of_length_le (Nat.le_of_not_lt (by assumption))]; simp
  unfold StripG
  rw [h0, h1]
  cases op with
  | none => dsimp only; rw [show outF e [] = [] by cases e <;> rfl, List.append_nil]
  | some o =>
    have h3 := List.take_append_drop (o - a) (l.drop a)
    rw [List.drop_drop, Nat.add_sub_cancel' (hok o rfl)] at h3
    dsimp only
    rw [show inF e (l.drop o) [] = l.drop o by cases e <;> rfl, h3]
section
variable {l pre r : List Nat} {c a : Nat} {e e' : Bool} {op : Option Nat} {res : List (List Nat)}
theorem drop_snoc {b : Nat} (hb : b ≤ pre.length) : (pre ++ [c]).drop b = pre.drop b ++ [c] := List.drop_append_of_le_length hb
theorem take_snoc {o : Nat} (h1 : a ≤ o) (h2 : o ≤ pre.length) (x : List Nat) : (pre.drop a ++ x).take (o - a) = (pre.drop a).take (o - a) :=
  List.take_append_of_le_length (by rw [List.length_drop]; exact Nat.sub_le_sub_right h2 a)
/-- a step that changes nothing -/
theorem strip_keep (ih : StripG l r (pre ++ [c]) e' a op res) (h : (escF e pre.length (c :: r)).foldl (stStep l) (a, op, res) = (escF e' (pre.length + 1) r).foldl (stStep l) (a, op, res)) (ha : a ≤ pre.length) (h2 : ∀ o, op = some o → a ≤ o ∧ o < pre.length)
    (h3 : outF e (c :: r) = c :: outF e' r) (h4 : ∀ p, inF e p (c :: r) = inF e' (p ++ [c]) r) : StripG l (c :: r) pre e a op res := by
  unfold StripG at ih ⊢
  rw [List.length_append, List.length_singleton] at ih
  rw [h, ih]
  cases op with
  | none => dsimp only; rw [h3, drop_snoc ha, List.append_assoc]; rfl
  | some o => dsimp only; rw [h4, drop_snoc ha, drop_snoc (Nat.le_of_lt (h2 o rfl).2), take_snoc (h2 o rfl).1 (Nat.le_of_lt (h2 o rfl).2)]
theorem strip_open (ih : StripG l r (pre ++ [34]) false a (some pre.length) res) (ha : a ≤ pre.length) : StripG l (34 :: r) pre false a none res := by
  unfold StripG at ih ⊢
  rw [List.length_append, List.length_singleton] at ih
  rw [escF, if_neg (by decide), List.foldl_cons, show stStep l (a, none, res) (pre.length, [34]) = (a, some pre.length, res) by unfold stStep; rw [if_pos rfl], ih]
  dsimp only
  rw [outF, if_neg (by decide), if_pos rfl, drop_snoc ha, drop_snoc (Nat.le_refl _), List.drop_length, List.nil_append, take_snoc ha (Nat.le_refl _), List.take_of_length_le (by rw [List.length_drop]; exact Nat.le_refl _)]
theorem strip_shut {o : Nat} (ih : StripG l r (pre ++ [34]) false (pre.length + 1) none (if a = o then res else res ++ [(l.drop a).take (o - a)])) (hl : l = pre ++ 34 :: r) (h1 : a ≤ o) (h2 : o ≤ pre.length) : StripG l (34 :: r) pre false a (some o) res := by
  unfold StripG at ih ⊢
  rw [List.length_append, List.length_singleton] at ih
  rw [escF, if_neg (by decide), List.foldl_cons, show stStep l (a, some o, res) (pre.length, [34]) = (pre.length + 1, none, if a = o then res else res ++ [(l.drop a).take (o - a)]) by unfold stStep; rw [if_pos rfl], ih]
  dsimp only
  rw [slice_flat, inF, if_neg (by decide), if_pos rfl, List.drop_of_length_le (l := pre ++ [34]) (by rw [List.length_append]; exact Nat.le_refl _), List.nil_append, List.append_assoc]
  rw [show (l.drop a).take (o - a) = (pre.drop a).take (o - a) by rw [hl, List.drop_append_of_le_length (Nat.le_trans h1 h2), take_snoc h1 h2]]
end
theorem strip_plain {l : List Nat} : ∀ (r pre : List Nat) (e : Bool) (a : Nat) (op : Option Nat) (res : List (List Nat)), l = pre ++ r → (e = true → a < pre.length) → a ≤ pre.length → (∀ o, op = some o → a ≤ o ∧ o < pre.length) → StripG l r pre e a op res := by
  intro r
  induction r with
  | nil =>
    intro pre e a op res hl _ _ hok
    rw [List.append_nil] at hl
    rw [← hl]
    exact strip_nil fun o ho => (hok o ho).1
  | cons c r ih =>
    intro pre e a op res hl he ha hok
    have hl' : l = (pre ++ [c]) ++ r := by rw [hl, List.append_assoc]; rfl
    have hlen : (pre ++ [c]).length = pre.length + 1 := by rw [List.length_append]; rfl
    have same : ∀ e', (e' = true → a < pre.length + 1) → StripG l r (pre ++ [c]) e' a op res := fun e' h1 => ih (pre ++ [c]) e' a op res hl' (by rw [hlen]; exact h1) (by rw [hlen]; exact Nat.le_succ_of_le ha) (fun o ho => by rw [hlen]; exact ⟨(hok o ho).1, Nat.lt_succ_of_lt (hok o ho).2⟩)
    have plain : ∀ (i : Nat) (x : List Nat), x ≠ [34] → stStep l (a, op, res) (i, x) = (a, op, res) := fun i x hx => by unfold stStep; rw [if_neg hx]
    cases e with
    | true => exact strip_keep (same false (fun z => by cases z)) (by rw [escF, List.foldl_cons, plain _ _ (by simp)]) ha hok (by rw [outF]) (fun p => by rw [inF])
    | false =>
      by_cases h92 : c = 92
      · subst h92
        exact strip_keep (same true (fun _ => Nat.lt_succ_of_le ha)) (by rw [escF, if_pos rfl]) ha hok (by rw [outF, if_pos rfl]) (fun p => by rw [inF, if_pos rfl])
      · by_cases h34 : c = 34
        · subst h34
          cases op with
          | none => exact strip_open (ih (pre ++ [34]) false a (some pre.length) res hl' (fun z => by cases z) (by rw [hlen]; exact Nat.le_succ_of_le ha) (fun o ho => by cases ho; rw [hlen]; exact ⟨ha, Nat.lt_succ_self _⟩)) ha
          | some o =>
            have h4 := hok o rfl
            exact strip_shut (ih (pre ++ [34]) false (pre.length + 1) none _ hl' (fun z => by cases z) (by rw [hlen]; exact Nat.le_refl _) (fun o ho => by cases ho)) hl h4.1 (Nat.le_of_lt h4.2)
        · exact strip_keep (same false (fun z => by cases z)) (by rw [escF, if_neg h92, List.foldl_cons, plain _ _ (by simpa using h34)]) ha hok (by rw [outF, if_neg h92, if_neg h34]) (fun p => by rw [inF, if_neg h92, if_neg h34])
theorem strip_law (l : List Nat) : (stFin l ((escF false 0 l).foldl (stStep l) (0, none, []))).flatten = outF false l :=
  strip_plain l [] false 0 none [] rfl (fun z => by cases z) (Nat.le_refl _) (fun o ho => by cases ho)
end Mine
namespace Mine
theorem escF_sorted : ∀ (r : List Nat) (e : Bool) (i : Nat), (e = true → 1 ≤ i) → (escF e i r).Pairwise (fun a b => a.1 < b.1) ∧ ∀ it ∈ escF e i r, (if e = true then i - 1 else i) ≤ it.1
  | [], true, i, _ => by
    rw [escF]
    exact ⟨List.pairwise_singleton _ _, fun it hm => by rw [List.mem_singleton.mp hm]; exact Nat.le_refl _⟩
  | [], false, i, _ => by
    rw [escF]
    exact ⟨List.Pairwise.nil, fun it hm => by cases hm⟩
  | c :: r, true, i, h => by
    rw [escF]
    have ih := escF_sorted r false (i + 1) (fun _ => by omega)
    simp only [Bool.false_eq_true, if_false] at ih
    refine ⟨List.pairwise_cons.mpr ⟨fun it hm => ?_, ih.1⟩, fun it hm => ?_⟩
    · have := ih.2 it hm
      show i < _; omega
    · rw [if_pos rfl]
      rcases List.mem_cons.mp hm with e | hm
      · rw [e]; show i - 1 ≤ i; omega
      · have := ih.2 it hm
        omega
  | c :: r, false, i, h => by
    rw [escF]
    split
    · have ih := escF_sorted r true (i + 1) (fun _ => by omega)
      refine ⟨ih.1, fun it hm => ?_⟩
      have := ih.2 it hm
      rw [if_pos rfl] at this
      rw [if_neg Bool.false_ne_true]
      omega
    · have ih := escF_sorted r false (i + 1) (fun _ => by omega)
      simp only [Bool.false_eq_true, if_false] at ih ⊢
      refine ⟨List.pairwise_cons.mpr ⟨fun it hm => ?_, ih.1⟩, fun it hm => ?_⟩
      · have := ih.2 it hm
        show i < _; omega
      · rcases List.mem_cons.mp hm with e | hm
        · rw [e]; exact Nat.le_refl _
        · have := ih.2 it hm
          omega
theorem stOk_mono {a b : Nat} {st : StSt} (h : stOk a st) (hab : a ≤ b) : stOk b st := ⟨Nat.le_trans h.1 hab, fun o ho => ⟨(h.2 o ho).1, Nat.lt_of_lt_of_le (h.2 o ho).2 hab⟩⟩
theorem stOk_step {l : List Nat} {p : Nat} {x : List Nat} {st : StSt} (h : stOk p st) : stOk (p + 1) (stStep l st (p, x)) := by
  obtain ⟨a, op, res⟩ := st
  unfold stStep
  dsimp only
  split
  · cases op with
    | none => exact ⟨Nat.le_trans h.1 (Nat.le_succ _), fun o ho => by cases ho; exact ⟨h.1, Nat.lt_succ_self _⟩⟩
    | some o => exact ⟨Nat.le_refl _, fun o ho => by cases ho⟩
  · exact stOk_mono h (Nat.le_succ _)
theorem stOk_fold {l : List Nat} : ∀ (ys : List (Nat × List Nat)) (st : StSt) (k b : Nat), stOk k st → (∀ it ∈ ys, k ≤ it.1) → ys.Pairwise (fun a b => a.1 < b.1) → k ≤ b → (∀ it ∈ ys, it.1 < b) → stOk b (ys.foldl (stStep l) st)
  | [], st, k, b, h, _, _, hb, _ => stOk_mono h hb
  | (p, x) :: ys, st, k, b, h, h1, h2, hb, h3 => by
    have h4 := List.pairwise_cons.mp h2
    have hp : p < b := h3 (p, x) (List.mem_cons_self ..)
    exact stOk_fold ys _ (p + 1) b (stOk_step (stOk_mono h (h1 (p, x) (List.mem_cons_self ..)))) (fun it hm => h4.1 it hm) h4.2 hp (fun it hm => h3 it (List.mem_cons_of_mem _ hm))
theorem esc_turn {l : List Nat} {j p : Nat} {x : List Nat} (h : (escF false 0 l)[j]? = some (p, x)) : stOk p (((escF false 0 l).take j).foldl (stStep l) (0, none, [])) ∧ p < l.length := by
  have hs := escF_sorted l false 0 (fun z => by cases z)
  have hm := List.mem_of_getElem? h
  have hp := escF_pos l false 0 (fun z => by cases z) _ hm
  refine ⟨stOk_fold _ _ 0 p ⟨Nat.le_refl _, fun o ho => by cases ho⟩ (fun _ _ => Nat.zero_le _) (hs.1.sublist (List.take_sublist ..)) (Nat.zero_le _) (fun it hi => ?_), by rw [Nat.zero_add] at hp; exact hp⟩
  obtain ⟨hj, e⟩ := List.getElem?_eq_some_iff.mp h
  obtain ⟨i, hi', e'⟩ := List.mem_iff_getElem.mp hi
  rw [List.getElem_take] at e'
  have hij : i < j := by rw [List.length_take] at hi'; omega
  have := List.pairwise_iff_getElem.mp hs.1 i j (by omega) hj hij
  rw [e, e'] at this
  exact this
theorem esc_end (l : List Nat) : stOk l.length ((escF false 0 l).foldl (stStep l) (0, none, [])) := by
  have hs := escF_sorted l false 0 (fun z => by cases z)
  refine stOk_fold _ _ 0 l.length ⟨Nat.le_refl _, fun o ho => by cases ho⟩ (fun _ _ => Nat.zero_le _) hs.1 (Nat.zero_le _) (fun it hi => ?_)
  have := escF_pos l false 0 (fun z => by cases z) _ hi
  rw [Nat.zero_add] at this; exact this
theorem res_step {l : List Nat} {st : StSt} {it : Nat × List Nat} : (stStep l st it).2.2.length ≤ st.2.2.length + 1 := by
  obtain ⟨a, op, res⟩ := st
  unfold stStep
  dsimp only
  split
  · cases op with
    | none => dsimp only; omega
    | some o => dsimp only; split <;> simp
  · dsimp only; omega
theorem res_fold {l : List Nat} : ∀ (ys : List (Nat × List Nat)) (st : StSt), (ys.foldl (stStep l) st).2.2.length ≤ st.2.2.length + ys.length
  | [], _ => Nat.le_refl _
  | it :: ys, st => by
    have h1 := res_fold (l := l) ys (stStep l st it)
    have h2 := res_step (l := l) (st := st) (it := it)
    rw [List.foldl_cons, List.length_cons]; omega
theorem esc_length : ∀ (r : List Nat) (e : Bool) (i : Nat), (escF e i r).length ≤ r.length + 1
  | [], true, _ => by rw [escF]; simp
  | [], false, _ => by rw [escF]; simp
  | c :: r, true, i => by have := esc_length r false (i + 1); rw [escF, List.length_cons, List.length_cons]; omega
  | c :: r, false, i => by
    rw [escF]
    split
    · have := esc_length r true (i + 1); rw [List.length_cons]; omega
    · have := esc_length r false (i + 1); rw [List.length_cons, List.length_cons]; omega
end Mine
end

section
open PySem PySem.W PyProof.Rows PySem.Calls PySem.Spec
set_option Elab.async false
set_option maxRecDepth 100000
set_option maxHeartbeats 4000000
namespace Mine
/-! The law's entry, in the logic of the claim's stacks. -/
def LEnd (tabs : List (Addr × Addr)) (s₁ : Shared) (f : Flow) (s' : Shared) : Prop :=
  (match f with | .ret v => v | _ => .none) = .bool true ∧ (∀ b o, (ghostOf s₁.heap tabs).get? b = some o → s'.heap.get? b = some o) ∧ GrownAll tabs s'.heap ∧ s'.os = s₁.os ∧ AllBare s'.gens
theorem good_of {s₁ s' : Shared} {c : ClaimW} {cl : Str → Option Addr} {mean : ExcName → Option Value} {args : List WData} {tabs : List (Addr × Addr)} {v : Value} (hT : TabsAt tabs s₁.heap)
    (hno : ∀ cls, c.raises args cls = false) (hp : c.post args (.bool true) args = true) (hv : v = .bool true) (hk : ∀ b o, (ghostOf s₁.heap tabs).get? b = some o → s'.heap.get? b = some o)
    (hg : GrownAll tabs s'.heap) (hos : s'.os = s₁.os) (hb : AllBare s'.gens) : GoodWG c cl mean args s₁ (.ok (.ret v)) s' := by
  subst hv
  have keep : ∀ b o, b ∉ tabs.map (·.2) → s₁.heap.get? b = some o → s'.heap.get? b = some o := fun b o hb e => hk b o (ghost_ne e hb)
  have grown : ∀ b o, b ∈ tabs.map (·.2) → s₁.heap.get? b = some o → isCodeTable s₁.heap b ∧ o = tabObj #[] ∧ ∃ ps, s'.heap.get? b = some (tabObj ps) := fun b o hb e => by
    obtain ⟨q, hq, rfl⟩ := List.mem_map.mp hb
    have e2 := (hT q hq).2
    rw [e] at e2
    exact ⟨((hT q hq).1.tab (hT q hq).2).isCodeTable, Option.some.inj e2, hg.get q hq⟩
  refine ⟨.inl ⟨.bool true, .bool true, [], rfl, hno, ?_, hp, fun _ => ⟨List.nodup_nil, fun a ha => by cases ha⟩⟩, ⟨fun b o e => ?_, fun b o e => ?_⟩, hos, hb⟩
  · first | exact .bool _ | constructor
  · by_cases hb : b ∈ tabs.map (·.2)
    · obtain ⟨ht, rfl, ps, hP⟩ := grown b o hb e
      exact .inr (.inl ⟨ht, rfl, #[], ps, rfl, by rw [Array.empty_append]; exact hP⟩)
    · exact .inl (keep b o hb e)
  · by_cases hb : b ∈ tabs.map (·.2)
    · obtain ⟨_, _, ps, hP⟩ := grown b o hb e
      exact ⟨_, hP⟩
    · exact ⟨o, keep b o hb e⟩
section
variable {prog : Program} {w : World} {A : Around} {s : Shared}
theorem C_enter {name : Str} {params : Arguments} {body : List Stmt} {scope : Scope} {dV kV pm cd doc : Value} {a : Addr} {o : Obj} {args : List Value} {binds : List (Str × Value)}
    {c : ClaimW} {cl : Str → Option Addr} {mean : ExcName → Option Value} {wargs : List WData} {tabs : List (Addr × Addr)} (hT : TabsAt tabs s.heap)
    (hno : ∀ cls, c.raises wargs cls = false) (hp : c.post wargs (.bool true) wargs = true)
    (hroom : A.depth < recursionLimit) (ho : s.heap.get? a = some o) (hdata : o.data = .func { docDef name params body scope pm cd doc with defaults := dV, kwdefaults := kV }) (hlim : s.heap.NoLimit) (hcd : s.heap.CodeRec cd name)
    (hbind : BindsTo s { docDef name params body scope pm cd doc with defaults := dV, kwdefaults := kV } ⟨args, []⟩ binds)
    (hloc : ∀ x ∈ binds, scope.names.lookup x.1 = some .local)
    (h : ∀ h₁, Fr s.heap s.heap.objs.size h₁ (fun x => binds.reverse.lookup x) →
      wpC (model prog w) (A.deeper (envOf name scope s.heap.objs.size a cd)) (execs body (envOf name scope s.heap.objs.size a cd)) (LEnd tabs s) (fun _ _ => False) { s with heap := h₁, toks := s.toks + binds.length })
    (hco : scope.isCoroutine = false := by rfl) (hgen : scope.isGenerator = false := by rfl) (hk : scope.kind = .function := by rfl)
    (hcell : ∀ x ∈ scope.names, x.2 ≠ .cell := by decide) :
    wpC (model prog w) A (PySem.call (.ref a) args) (fun v s' => GoodWG c cl mean wargs s (.ok (.ret v)) s') (fun e s' => GoodWG c cl mean wargs s (.error e) s') s := by
  refine wpC_call (C_call_def hroom ho hdata hlim hcd rfl hbind hcell hloc (fun h₁ hns hkeep => wpC_mono (h h₁ ⟨hns, hkeep, Nat.le_refl _⟩) (fun f s' hf => ?_) fun _ _ z => z.elim) hco hgen hk)
  obtain ⟨h1, h2, h3, h4, h5⟩ := hf
  exact good_of hT hno hp h1 h2 h3 h4 h5
end
end Mine
end

section
open PySem PySem.W PyProof.Rows PySem.Calls PySem.Spec
set_option Elab.async false
set_option maxRecDepth 100000
set_option maxHeartbeats 4000000
namespace Mine
noncomputable def sgnList : List Nat := [48, 49, 50, 51, 52, 53, 54, 55, 56, 57, 34, 34, 34, 34, 34, 34]
noncomputable def sgnOf (a : Int) : Nat := sgnList.getD ((a.fdiv 4).fmod 16).toNat 34
def ItG (v : Value) (vs : Array Value) : Prop := ∃ a t t1 t2, v = .int a t ∧ vs = #[.str (S [sgnOf a]) t1, .int (((a.fmod 4).toNat : Nat) : Int) t2]
theorem ints_mem : ∀ {vs : List Value} {ns : List Int}, IntsAre vs ns → ∀ {v : Value}, v ∈ vs → ∃ a t, v = .int a t
  | _, _, .nil, v, h => by cases h
  | _, _, .cons a t h, v, hv => by
    rcases List.mem_cons.mp hv with e | hv
    · exact ⟨_, _, e⟩
    · exact ints_mem h hv
theorem keeps_refl (s : Shared) : Keeps s s := ⟨s.heap, s.toks, rfl, fun _ _ e => e⟩
def ItPost (s₂ : Shared) (v y : Value) (s₃ : Shared) : Prop := (∃ T vs, y = .ref T ∧ s₂.heap.get? T = none ∧ s₃.heap.IsTuple T vs ∧ ItG v vs) ∧ Keeps s₂ s₃
theorem sgn_item (a : Int) : Txt.item (Str.ofString "0123456789\"\"\"\"\"\"") ((a.fdiv 4).fmod 16) = S [sgnOf a] := by
  have h0 : 0 ≤ (a.fdiv 4).fmod 16 := Int.fmod_nonneg_of_pos _ (by decide)
  have h1 : (a.fdiv 4).fmod 16 < 16 := Int.fmod_lt_of_pos _ (by decide)
  unfold sgnOf
  generalize (a.fdiv 4).fmod 16 = i at *
  obtain ⟨n, rfl⟩ := Int.eq_ofNat_of_zero_le h0
  exact (by decide +kernel : ∀ n : Nat, n < 16 → Txt.item (Str.ofString "0123456789\"\"\"\"\"\"") (n : Int) = S [sgnList.getD (n : Int).toNat 34]) n (by omega)
theorem dep_eq (a : Int) : a.fmod 4 = (((a.fmod 4).toNat : Nat) : Int) := (Int.toNat_of_nonneg (Int.fmod_nonneg_of_pos _ (by decide))).symm
theorem newTuple_it {M : Model} {A : Around} {E : Value → Shared → Prop} {s s₂ : Shared} {a k : Int} {t t1 t2 : Tok} {x : Str} (hs : ∃ tk, s = { s₂ with toks := tk }) (hx : x = S [sgnOf a]) (hk : k = (((a.fmod 4).toNat : Nat) : Int)) :
    wpAny M A (newTuple [.str x t1, .int k t2]) (ItPost s₂ (.int a t)) E s := by
  obtain ⟨tk, rfl⟩ := hs
  subst hx hk
  unfold newTuple
  refine wpAny_newObj_type ?_ (by show (2 : Nat) ≤ sizeLine; decide)
  exact ⟨⟨_, _, rfl, Heap.get?_none_of_le (Nat.le_refl _), ⟨_, Heap.get?_push_size _ rfl, rfl, _, rfl⟩, a, t, t1, t2, rfl, rfl⟩, _, _, rfl, fun b o e => Heap.get?_push_of_some _ e⟩
end Mine
end

section
open PySem PySem.W PyProof.Rows PySem.Calls PySem.Spec
set_option Elab.async false
set_option maxRecDepth 100000
set_option maxHeartbeats 4000000
namespace Mine
section
variable {prog : Program} {w : World} {A : Around} {E : Value → Shared → Prop} {s : Shared} {env : Env}
theorem compLoop_any {R : Result → Shared → Prop} {elt target iter : Expr} {scope : Scope} {pos : Pos} {it acc : Value} {env : Env} (I : Nat → Shared → Prop)
    (turn : ∀ n s, I n s → wpAny (model prog w) A (pyNext it) (fun r s₁ => match r with
      | none => R (.ok .next) s₁
      | some v => wpAny (model prog w) A (letOwnedTupleGo target it v) (fun _ s₁' => wpAny (model prog w) A (assign target env v) (fun _ s₂ => wpAny (model prog w) A (eval elt env) (fun x s₃ =>
          wpAny (model prog w) A (call (.builtin "list.append") [acc, x]) (fun _ s₄ => ∃ m, m < n ∧ I m s₄) (notedBy (model prog w) A env fun e s' => R (.error e) s') s₃)
          (notedBy (model prog w) A env fun e s' => R (.error e) s') s₂) (notedBy (model prog w) A env fun e s' => R (.error e) s') s₁') (notedBy (model prog w) A env fun e s' => R (.error e) s') s₁) (notedBy (model prog w) A env fun e s' => R (.error e) s') s)
    (n : Nat) (h : I n s) :
    codeAny (model prog w) A (.compLoop (.ListComp elt [⟨target, iter, [], 0⟩] scope pos) 0 it acc env) R s := by
  refine codeAny_loop rfl I (fun n s hI => ?_) n h
  show wpAny _ _ ((compTurn (.ListComp elt [⟨target, iter, [], 0⟩] scope pos) 0 it acc env).onRaise (fun x => do noteFrame x env; theTreesLotGoes x)) _ _ s
  refine wpAny_noted ?_
  rw [compTurn_list1]
  refine wpAny_bind (wpAny_standAt (wpAny_bind (wpAny_mono (turn n s hI) (fun r s₁ h₁ => ?_) fun _ _ h' => h')))
  cases r with
  | none => exact wpAny_pure h₁
  | some v =>
    refine wpAny_bind (wpAny_mono h₁ (fun _ s₁' h₁' => ?_) fun _ _ h' => h')
    exact wpAny_bind (wpAny_mono h₁' (fun _ s₂ h₂ => wpAny_bind (wpAny_bind (wpAny_mono h₂ (fun x s₃ h₃ => wpAny_bind (wpAny_mono h₃
      (fun _ s₄ h₄ => wpAny_pure (wpAny_pure ⟨rfl, h₄⟩)) fun _ _ h' => h')) fun _ _ h' => h'))) fun _ _ h' => h')
inductive CInv (s₁ : Shared) (N : Nat) (ax : Addr) (items : Array Value) (P : Nat → Heap → Nat → List Value → Prop) : Nat → Shared → Prop
  | mk (H : Heap) (tk : Nat) (m : Str → Option Value) (ys : List Value) (i : Nat) (hI : H.IsListIter N ax i) (hL : H.IsList ax items) (hA : H.IsList (N + 1) (List.toArray ys)) (hn : H.Ns (N + 2) m) (hP : P N H i ys) (hy : ys.length = i) (hz : N + 3 ≤ H.objs.size)
    (hk : ∀ b o, s₁.heap.get? b = some o → H.get? b = some o) (hi : i ≤ items.size) : CInv s₁ N ax items P (items.size + 1 - i) { s₁ with heap := H, toks := tk }
/-- a comprehension over a list, with an invariant of one's own about what is made and any way to bind the target: the iterator, the list made and the names lie at N, N + 1 and N + 2 -/
theorem comp_gen {elt target iter : Expr} {scope : Scope} {pos : Pos} {Q : Value → Shared → Prop} (P : Nat → Heap → Nat → List Value → Prop) (V : Nat → Value → (Str → Option Value) → Prop)
    (hh : A.handled = none) (hfree : ∀ y ∈ scope.names, y.2 ≠ .free) (hcell : ∀ y ∈ scope.names, y.2 ≠ .cell) (hkind : scope.kind = .function)
    (hnames : ∀ y ∈ scope.names, y.2 = .local → scope.names.lookup y.1 = some .local)
    (hP : ∀ N h h' i ys, P N h i ys → (∀ b o, (b < N ∨ N + 3 ≤ b) → h.get? b = some o → h'.get? b = some o) → P N h' i ys)
    (h0 : ∀ N h, P N h 0 [])
    (h : wpAny (model prog w) A (eval iter env) (fun xv s₁ => ∃ ax items, xv = .ref ax ∧ s₁.heap.IsList ax items ∧ items.size ≤ 1000 ∧
      (∀ i v s₂ m₂ (Q' : Unit → Shared → Prop) (E' : Value → Shared → Prop), items[i]? = some v → (∃ ax i, s₂.heap.IsListIter s₁.heap.objs.size ax i) → s₂.heap.Ns (s₁.heap.objs.size + 2) m₂ → (∀ b o, s₁.heap.get? b = some o → s₂.heap.get? b = some o) →
        (∀ h₃ tk₃ m₃, h₃.Ns (s₁.heap.objs.size + 2) m₃ → V i v m₃ → (∀ b o, b ≠ s₁.heap.objs.size + 2 → s₂.heap.get? b = some o → h₃.get? b = some o) → Q' () { s₂ with heap := h₃, toks := tk₃ }) →
        wpAny (model prog w) A (letOwnedTupleGo target (.ref s₁.heap.objs.size) v) (fun _ s' => wpAny (model prog w) A (assign target (compEnv scope (s₁.heap.objs.size + 2) env) v) Q' E' s') E' s₂) ∧
      (∀ i v s₂ m₂ ys, i < items.size → V i v m₂ → s₂.heap.Ns (s₁.heap.objs.size + 2) m₂ → items[i]? = some v → s₁.heap.objs.size + 3 ≤ s₂.heap.objs.size → P s₁.heap.objs.size s₂.heap i ys →
        wpAny (model prog w) A (eval elt (compEnv scope (s₁.heap.objs.size + 2) env)) (fun y s₃ => Keeps s₂ s₃ ∧ P s₁.heap.objs.size s₃.heap (i + 1) (ys ++ [y])) (fun _ _ => False) s₂) ∧
      (∀ h' tk ys, h'.IsList (s₁.heap.objs.size + 1) (List.toArray ys) → P s₁.heap.objs.size h' items.size ys → ys.length = items.size → (∀ b o, s₁.heap.get? b = some o → h'.get? b = some o) →
        Q (.ref (s₁.heap.objs.size + 1)) { s₁ with heap := h', toks := tk })) E s)
    (hs : ∀ x, foldedSetIterable iter env x = pure x := by intro _; rfl) :
    wpAny (model prog w) A (eval (.ListComp elt [⟨target, iter, [], 0⟩] scope pos) env) Q E s := by
  refine wpAny_ListComp hfree hkind hnames (wpAny_mono h (fun xv s₁ h₁ => ?_) fun _ _ e => e) hs
  refine hide fun G9 k9 => ?_
  obtain ⟨ax, items, ev, hl, hsz, hasg, helt, hQ⟩ := h₁
  subst ev
  refine k9 ?_
  clear k9
  refine wpAny_pyIter_list hl (wpAny_newObj_type (hd := by size_fits) (wpAny_newFunctionEnv hcell (by intro y hy; simp at hy) (fun h₁ hns₁ hsb₁ => ?_) hkind))
  dsimp only at hns₁ hsb₁ ⊢
  obtain ⟨ol, hol, hol'⟩ := id hl
  have hax : ax < s₁.heap.objs.size := Heap.lt_size hol
  generalize hH1 : s₁.heap.push { cls := .type "list_iterator", data := .fields #[.ref ax, .int 0 0] } = H1 at hns₁ hsb₁ ⊢
  have hD : H1.objs.size = s₁.heap.objs.size + 1 := by rw [← hH1, Heap.size_push]
  generalize hH2 : H1.push { cls := .type "list", dict := none, data := .seq ([] : List Value).toArray } = H2 at hns₁ hsb₁ ⊢
  have hC : H2.objs.size = s₁.heap.objs.size + 2 := by rw [← hH2, Heap.size_push, hD]
  rw [hC] at hns₁ hsb₁ ⊢
  rw [hD]
  generalize hN : s₁.heap.objs.size = N at *
  have szN : ∀ (b : Nat) o, s₁.heap.get? b = some o → b < N := fun b o e => by have z : b < s₁.heap.objs.size := Heap.lt_size e; rw [hN] at z; exact z
  have hax' : (show Nat from ax) < N := szN _ _ hol
  have up : ∀ (b : Nat) o, b ≠ N + 2 → H2.get? b = some o → h₁.get? b = some o := fun b o hb e => hsb₁.extBut b o hb (Heap.get?_push_of_some _ e)
  have old : ∀ b o, s₁.heap.get? b = some o → h₁.get? b = some o := fun b o e =>
    up b o (by have := szN _ _ e; omega) (hH2 ▸ Heap.get?_push_of_some _ (hH1 ▸ Heap.get?_push_of_some _ e))
  have hit : h₁.IsListIter N ax 0 := ⟨_, up _ _ (by omega) (hH2 ▸ Heap.get?_push_of_some _ (hH1 ▸ hN ▸ Heap.get?_push_size _ rfl)), rfl, rfl⟩
  have hacc : h₁.IsList (N + 1) #[] := ⟨_, up _ _ (by omega) (hH2 ▸ hD ▸ Heap.get?_push_size _ rfl), rfl, _, rfl⟩
  have hl₁ : h₁.IsList ax items := ⟨ol, old _ _ hol, hol'⟩
  have hlt1 : N + 2 < h₁.objs.size := hns₁.lt
  have W := Walks.list (prog := prog) (w := w) hh N ax (Nat.ne_of_lt hax) items
  have loop : ∀ s₂ : Shared, s₂ = { s₁ with heap := h₁, toks := s₁.toks + ([] : List (Str × Value)).length } →
      codeAny (model prog w) A (.compLoop (.ListComp elt [⟨target, iter, [], 0⟩] scope pos) 0 (.ref N) (.ref (N + 1)) (compEnv scope (N + 2) env))
        (fun r s' => ∃ m, s'.heap.Ns (N + 2) m ∧ ∀ h', Heap.SameBut (N + 2) s'.heap h' →
          match r with | .ok _ => Q (.ref (N + 1)) { s' with heap := h' } | .error x => wpAny (model prog w) A (passOn "comprehension.variables-let-go" x (compEnv scope (N + 2) env)) Q E { s' with heap := h' }) s₂ := by
    rintro s₂ rfl
    refine compLoop_any (CInv s₁ N ax items P) ?_ (items.size + 1) (.mk h₁ _ _ [] 0 hit hl₁ hacc hns₁ (h0 N h₁) rfl hlt1 old (Nat.zero_le _))
    intro k s' hk
    cases hk with
    | mk H tk m ys i hiI hiL hiA hns hPi hyl hsize hkeep hi =>
    by_cases hlt : i < items.size
    · refine W.item i _ _ _ hlt ⟨hiI, hiL⟩ fun v h₂ tk₂ hv hst₂ hk₂ => ?_
      have k2 : ∀ (b : Nat) o, b ≠ N → H.get? b = some o → h₂.get? b = some o := fun b o hb e => hk₂ b o (fun q => hb (List.mem_singleton.mp q)) e
      have ns2 : h₂.Ns (N + 2) m := hns.at' fun o e => k2 _ o (by omega) e
      refine hasg i v _ m _ _ hv ⟨ax, _, hst₂.1⟩ ns2 (fun b o e => k2 b o (Nat.ne_of_lt (szN b o e)) (hkeep b o e)) (fun h₃ tk₃ m₃ hn₃ hV k3 => ?_)
      have k23 : ∀ (b : Nat) o, b ≠ N → b ≠ N + 2 → H.get? b = some o → h₃.get? b = some o := fun b o hb hb2 e => k3 b o hb2 (k2 b o hb e)
      have hP3 : P N h₃ i ys := hP N H h₃ i ys hPi fun b o hb e => k23 b o (by omega) (by omega) e
      have hn3lt : N + 2 < h₃.objs.size := hn₃.lt
      refine wpAny_mono (helt i v _ _ ys hlt hV hn₃ hv hn3lt hP3) (fun y s₄ h₄ => ?_) fun _ _ z => z.elim
      refine hide fun G9 k9 => ?_
      obtain ⟨⟨h₄', tk₄, e4, hk₄⟩, hP4⟩ := h₄
      subst e4
      refine k9 ?_
      clear k9
      dsimp only at hk₄ hP4
      have acc4 : h₄'.IsList (N + 1) (List.toArray ys) := by
        obtain ⟨oa, ha, r⟩ := hiA
        exact ⟨oa, hk₄ _ _ (k23 _ _ (by omega) (by omega) ha), r⟩
      have hyz : ys.toArray.size ≤ sizeLine := by rw [List.size_toArray, hyl]; exact Nat.le_trans (Nat.le_of_lt hlt) (Nat.le_trans hsz (by decide))
      refine wpAny_list_append acc4 (fun h₅ ha₅ hs₅ => ?_) hyz
      have k5 : ∀ (b : Nat) o, b ≠ N + 1 → h₄'.get? b = some o → h₅.get? b = some o := fun b o hb e => hs₅.extBut b o hb e
      refine ⟨items.size + 1 - (i + 1), by omega, .mk h₅ _ m₃ (ys ++ [y]) (i + 1) ?_ ?_ ?_ ?_ ?_ (by rw [List.length_append, hyl]; rfl) ?_ ?_ hlt⟩
      · exact hst₂.1.at fun o e => k5 _ _ (by omega) (hk₄ _ _ (k3 _ _ (by omega) e))
      · exact hst₂.2.at fun o e => k5 _ _ (Nat.ne_of_lt (Nat.lt_succ_of_lt hax')) (hk₄ _ _ (k3 _ _ (Nat.ne_of_lt (Nat.lt_succ_of_lt (Nat.lt_succ_of_lt hax'))) e))
      · have e : (ys ++ [y]).toArray = ys.toArray.push y := by simp
        rw [e]; exact ha₅
      · exact (hn₃.at' fun o e => hk₄ _ _ e).at' fun o e => k5 (N + 2) o (by omega) e
      · exact hP N h₄' h₅ _ _ hP4 fun b o hb e => k5 b o (by omega) e
      · have : N + 2 < h₅.objs.size := ((hn₃.at' fun o e => hk₄ _ _ e).at' fun o e => k5 (N + 2) o (by omega) e : h₅.Ns (N + 2) _).lt
        omega
      · exact fun b o e => k5 _ _ (by have := szN _ _ e; omega) (hk₄ _ _ (k23 _ _ (by have := szN _ _ e; omega) (by have := szN _ _ e; omega) (hkeep _ _ e)))
    · have hin : i = items.size := by omega
      subst hin
      refine W.done _ _ _ ⟨hiI, hiL⟩ fun h₂ tk₂ hk₂ => ?_
      have k2 : ∀ (b : Nat) o, b ≠ N → H.get? b = some o → h₂.get? b = some o := fun b o hb e => hk₂ b o (fun q => hb (List.mem_singleton.mp q)) e
      refine ⟨m, hns.at' fun o e => k2 _ o (by omega) e, fun h₃ hs₃ => ?_⟩
      have k3 : ∀ (b : Nat) o, b ≠ N + 2 → h₂.get? b = some o → h₃.get? b = some o := fun b o hb e => hs₃.extBut b o hb e
      exact hQ h₃ tk₂ ys (hiA.at fun o e => k3 _ _ (by omega) (k2 _ _ (by omega) e)) (hP N H h₃ _ _ hPi fun b o hb e => k3 _ _ (by omega) (k2 _ _ (by omega) e)) hyl
        fun b o e => k3 _ _ (by have := szN _ _ e; omega) (k2 _ _ (by have := szN _ _ e; omega) (hkeep _ _ e))
  exact codeAny_compStart_list (loop _ rfl) (wpAny_pyIter_listiter hit (loop _ rfl))
theorem comp_inv {elt iter : Expr} {x : Str} {px : Pos} {scope : Scope} {pos : Pos} {Q : Value → Shared → Prop} (P : Nat → Heap → Nat → List Value → Prop)
    (hh : A.handled = none) (hfree : ∀ y ∈ scope.names, y.2 ≠ .free) (hcell : ∀ y ∈ scope.names, y.2 ≠ .cell) (hkind : scope.kind = .function)
    (hnames : ∀ y ∈ scope.names, y.2 = .local → scope.names.lookup y.1 = some .local) (hx : scope.names.lookup x = some .local)
    (hP : ∀ N h h' i ys, P N h i ys → (∀ b o, (b < N ∨ N + 3 ≤ b) → h.get? b = some o → h'.get? b = some o) → P N h' i ys)
    (h0 : ∀ N h, P N h 0 [])
    (h : wpAny (model prog w) A (eval iter env) (fun xv s₁ => ∃ ax items, xv = .ref ax ∧ s₁.heap.IsList ax items ∧ items.size ≤ 1000 ∧
      (∀ i v s₂ m₂ ys, items[i]? = some v → s₂.heap.Ns (s₁.heap.objs.size + 2) m₂ → m₂ x = some v → s₁.heap.objs.size + 3 ≤ s₂.heap.objs.size → P s₁.heap.objs.size s₂.heap i ys →
        wpAny (model prog w) A (eval elt (compEnv scope (s₁.heap.objs.size + 2) env)) (fun y s₃ => Keeps s₂ s₃ ∧ P s₁.heap.objs.size s₃.heap (i + 1) (ys ++ [y])) (fun _ _ => False) s₂) ∧
      (∀ h' tk ys, h'.IsList (s₁.heap.objs.size + 1) (List.toArray ys) → P s₁.heap.objs.size h' items.size ys → ys.length = items.size → (∀ b o, s₁.heap.get? b = some o → h'.get? b = some o) →
        Q (.ref (s₁.heap.objs.size + 1)) { s₁ with heap := h', toks := tk })) E s)
    (hs : ∀ x, foldedSetIterable iter env x = pure x := by intro _; rfl) :
    wpAny (model prog w) A (eval (.ListComp elt [⟨.Name x px, iter, [], 0⟩] scope pos) env) Q E s := by
  refine comp_gen P (fun i v m₃ => m₃ x = some v) hh hfree hcell hkind hnames hP h0 (wpAny_mono h (fun xv s₁ h₁ => ?_) fun _ _ e => e) hs
  refine hide fun G9 k9 => ?_
  obtain ⟨ax, items, ev, hl, hsz, helt, hQ⟩ := h₁
  subst ev
  refine k9 ?_
  clear k9
  refine ⟨ax, items, rfl, hl, hsz, ?_, fun i v s₂ m₂ ys _ hV hn hv hz hPi => helt i v s₂ m₂ ys hv hn hV hz hPi, hQ⟩
  intro i v s₂ m₂ Q' E' hv _ hn hk hgo
  refine wpAny_pure ?_
  refine wpAny_assign_Name (wpAny_storeName_local (env := compEnv scope (s₁.heap.objs.size + 2) env) hx hn (fun h₃ hn₃ hs₃ => ?_) (by simp [compEnv, hkind]))
  exact hgo h₃ _ _ hn₃ (by simp) (fun b o hb e => hs₃.extBut b o hb e)
theorem comp_pairs {elt iter : Expr} {xi xc : Str} {pk pv pt : Pos} {x1 : Nat} {scope : Scope} {pos : Pos} {Q : Value → Shared → Prop} (P : Nat → Heap → Nat → List Value → Prop) (P2 : Nat → Value → Value → Prop)
    (hh : A.handled = none) (hfree : ∀ y ∈ scope.names, y.2 ≠ .free) (hcell : ∀ y ∈ scope.names, y.2 ≠ .cell) (hkind : scope.kind = .function)
    (hnames : ∀ y ∈ scope.names, y.2 = .local → scope.names.lookup y.1 = some .local) (hxi : scope.names.lookup xi = some .local) (hxc : scope.names.lookup xc = some .local) (hcx : xc ≠ xi)
    (hP : ∀ N h h' i ys, P N h i ys → (∀ b o, (b < N ∨ N + 3 ≤ b) → h.get? b = some o → h'.get? b = some o) → P N h' i ys)
    (h0 : ∀ N h, P N h 0 [])
    (h : wpAny (model prog w) A (eval iter env) (fun xv s₁ => ∃ ax items, xv = .ref ax ∧ s₁.heap.IsList ax items ∧ items.size ≤ 1000 ∧ (∀ (i : Nat) v, items[i]? = some v → ∃ T v0 v1, v = Value.ref T ∧ s₁.heap.get? T = some (tup [v0, v1]) ∧ P2 i v0 v1) ∧
      (∀ i v0 v1 s₂ m₂ ys, i < items.size → P2 i v0 v1 → s₂.heap.Ns (s₁.heap.objs.size + 2) m₂ → m₂ xi = some v0 → m₂ xc = some v1 → s₁.heap.objs.size + 3 ≤ s₂.heap.objs.size → P s₁.heap.objs.size s₂.heap i ys →
        wpAny (model prog w) A (eval elt (compEnv scope (s₁.heap.objs.size + 2) env)) (fun y s₃ => Keeps s₂ s₃ ∧ P s₁.heap.objs.size s₃.heap (i + 1) (ys ++ [y])) (fun _ _ => False) s₂) ∧
      (∀ h' tk ys, h'.IsList (s₁.heap.objs.size + 1) (List.toArray ys) → P s₁.heap.objs.size h' items.size ys → ys.length = items.size → (∀ b o, s₁.heap.get? b = some o → h'.get? b = some o) →
        Q (.ref (s₁.heap.objs.size + 1)) { s₁ with heap := h', toks := tk })) E s)
    (hs : ∀ x, foldedSetIterable iter env x = pure x := by intro _; rfl) :
    wpAny (model prog w) A (eval (.ListComp elt [⟨.Tuple [.Name xi pk, .Name xc pv] x1 pt, iter, [], 0⟩] scope pos) env) Q E s := by
  refine comp_gen P (fun i v m₃ => ∃ v0 v1, P2 i v0 v1 ∧ m₃ xi = some v0 ∧ m₃ xc = some v1) hh hfree hcell hkind hnames hP h0 (wpAny_mono h (fun xv s₁ h₁ => ?_) fun _ _ e => e) hs
  refine hide fun G9 k9 => ?_
  obtain ⟨ax, items, ev, hl, hsz, htp, helt, hQ⟩ := h₁
  subst ev
  refine k9 ?_
  clear k9
  refine ⟨ax, items, rfl, hl, hsz, ?_, fun i v s₂ m₂ ys hi hV hn _ hz hPi => ?_, hQ⟩
  · intro i v s₂ m₂ Q' E' hv hit hn hk hgo
    refine hide fun G9 k9 => ?_
    obtain ⟨T, v0, v1, ev, hT, hP2⟩ := htp i v hv
    obtain ⟨ax', i', oI, hoI, hcI, hdI⟩ := hit
    obtain ⟨oc, od, odt, osl⟩ := oI
    simp only at hcI hdI
    subst ev hcI hdI
    refine k9 ?_
    clear k9
    unfold letOwnedTupleGo
    refine wpAny_bind (wpAny_load hoI ?_)
    dsimp only
    rw [if_neg (by intro hx; rw [Bool.and_eq_true] at hx; exact absurd hx.1 (by decide +kernel))]
    refine wpAny_pure ?_
    have ht₂ : s₂.heap.IsTuple T #[v0, v1] := ⟨_, hk T _ hT, rfl, _, rfl⟩
    refine wpAny_assign_Tuple hh ht₂ rfl rfl fun h₂' hx₂' => ?_
    have up₂ : ∀ b o, s₂.heap.get? b = some o → h₂'.get? b = some o := fun b o x => hx₂' b o (Nat.ne_of_lt (Heap.lt_size x)) x
    show wpAny _ A (do holding [v1] (assign (.Name xi pk) (compEnv scope (s₁.heap.objs.size + 2) env) v0); do holding [] (assign (.Name xc pv) (compEnv scope (s₁.heap.objs.size + 2) env) v1); pure ()) _ _ _
    refine wpAny_bind (wpAny_holding (wpAny_assign_Name (wpAny_storeName_local (env := compEnv scope (s₁.heap.objs.size + 2) env) hxi (hn.at' fun o e => up₂ _ o e) (fun h₂₅ hn₂₅ hs₂₅ => ?_) (by simp [compEnv, hkind]))))
    refine wpAny_bind (wpAny_holding (wpAny_assign_Name (wpAny_storeName_local (env := compEnv scope (s₁.heap.objs.size + 2) env) hxc hn₂₅ (fun h₃ hn₃ hs₃ => wpAny_pure ?_) (by simp [compEnv, hkind]))))
    exact hgo h₃ _ _ hn₃ ⟨v0, v1, hP2, by simp [Ne.symm hcx], by simp⟩ (fun b o hb e => hs₃.extBut b o hb (hs₂₅.extBut b o hb (up₂ b o e)))
  · obtain ⟨v0, v1, hP2, e0, e1⟩ := hV
    exact helt i v0 v1 s₂ m₂ ys hi hP2 hn e0 e1 hz hPi
end
end Mine
end

section
open PySem PySem.W PyProof.Rows PySem.Calls PySem.Spec
set_option Elab.async false
set_option maxRecDepth 100000
set_option maxHeartbeats 4000000
namespace Mine
/-! The comprehension of the items: fresh tuples (sign, depth). -/
noncomputable abbrev itTup (a : Int) (t1 t2 : Tok) : Obj := tup [.str (S [sgnOf a]) t1, .int (((a.fmod 4).toNat : Nat) : Int) t2]
def ItEnd (s₂ : Shared) (a : Int) (y : Value) (s₃ : Shared) : Prop := ∃ T t1 t2, y = .ref T ∧ s₂.heap.objs.size ≤ T ∧ s₃.heap.get? T = some (itTup a t1 t2) ∧ Keeps s₂ s₃
theorem newTuple_end {M : Model} {A : Around} {E : Value → Shared → Prop} {s s₂ : Shared} {a k : Int} {t1 t2 : Tok} {x : Str} (hs : ∃ tk, s = { s₂ with toks := tk }) (hx : x = S [sgnOf a]) (hk : k = (((a.fmod 4).toNat : Nat) : Int)) :
    wpAny M A (newTuple [.str x t1, .int k t2]) (ItEnd s₂ a) E s := by
  obtain ⟨tk, rfl⟩ := hs
  subst hx hk
  unfold newTuple
  refine wpAny_newObj_type ?_ (by show (2 : Nat) ≤ sizeLine; decide)
  exact ⟨_, t1, t2, rfl, Nat.le_refl _, Heap.get?_push_size _ rfl, _, _, rfl, fun b o e => Heap.get?_push_of_some _ e⟩
def ItP (ns : List Int) (N : Nat) (h : Heap) (i : Nat) (ys : List Value) : Prop :=
  ∃ tn : List (Addr × Obj), ys = tn.map (fun p => Value.ref p.1) ∧ (∀ p ∈ tn, N + 3 ≤ (show Nat from p.1) ∧ h.get? p.1 = some p.2) ∧ tn.length = i ∧
    ∀ (j : Nat) (p : Addr × Obj), tn[j]? = some p → ∃ a t1 t2, ns[j]? = some a ∧ p.2 = itTup a t1 t2
theorem ItP.keeps (ns : List Int) (N : Nat) (h h' : Heap) (i : Nat) (ys : List Value) (x : ItP ns N h i ys) (hk : ∀ b o, (b < N ∨ N + 3 ≤ b) → h.get? b = some o → h'.get? b = some o) : ItP ns N h' i ys := by
  obtain ⟨tn, e, h1, h2, h3⟩ := x
  exact ⟨tn, e, fun p hp => ⟨(h1 p hp).1, hk _ _ (.inr (h1 p hp).1) (h1 p hp).2⟩, h2, h3⟩
theorem ItP.start (ns : List Int) (N : Nat) (h : Heap) : ItP ns N h 0 [] := ⟨[], rfl, (fun p hp => by cases hp), rfl, fun j p hp => by simp at hp⟩
theorem ItP.step {ns : List Int} {N : Nat} {s₂ s₃ : Shared} {i : Nat} {ys : List Value} {a : Int} {y : Value} (x : ItP ns N s₂.heap i ys) (hN : N + 3 ≤ s₂.heap.objs.size) (ha : ns[i]? = some a) (e : ItEnd s₂ a y s₃) :
    Keeps s₂ s₃ ∧ ItP ns N s₃.heap (i + 1) (ys ++ [y]) := by
  obtain ⟨T, t1, t2, rfl, hT, hg, hk⟩ := e
  refine ⟨hk, ?_⟩
  obtain ⟨h', tk', rfl, hk'⟩ := hk
  obtain ⟨tn, e, h1, h2, h3⟩ := x
  refine ⟨tn ++ [(T, itTup a t1 t2)], by rw [e, List.map_append]; rfl, fun p hp => ?_, by rw [List.length_append, h2]; rfl, fun j p hp => ?_⟩
  · rcases List.mem_append.mp hp with hp | hp
    · exact ⟨(h1 p hp).1, hk' _ _ (h1 p hp).2⟩
    · rw [List.mem_singleton.mp hp]; exact ⟨Nat.le_trans hN hT, hg⟩
  · by_cases hj : j < tn.length
    · rw [List.getElem?_append_left hj] at hp; exact h3 j p hp
    · rw [List.getElem?_append_right (by omega)] at hp
      have hz : j - tn.length = 0 := by
        cases hq : j - tn.length with
        | zero => rfl
        | succ z => rw [hq] at hp; simp at hp
      rw [hz] at hp
      have : j = i := by omega
      subst this
      simp at hp
      subst hp
      exact ⟨a, t1, t2, ha, rfl⟩
theorem ints_at : ∀ {vs : List Value} {ns : List Int}, IntsAre vs ns → ∀ {i : Nat} {v : Value}, vs[i]? = some v → ∃ a t, v = .int a t ∧ ns[i]? = some a
  | _, _, .nil, i, v, h => by simp at h
  | _, _, .cons a t h, 0, v, hv => by simp at hv; exact ⟨a, t, hv.symm, rfl⟩
  | _, _, .cons a t h, i + 1, v, hv => by simpa using ints_at h (i := i) (by simpa using hv)
/-- the tuples made are new to the frame -/
theorem items_news {h₀ h₁ h : Heap} {L : Addr} {m : Str → Option Value} {news : List (Addr × Obj)} {ns : List Int} {ys : List Value} {i : Nat} (F : Fr h₀ L h₁ m) (N : News h₀ L h₁ news) (hk : ∀ b o, h₁.get? b = some o → h.get? b = some o)
    (x : ItP ns h₁.objs.size h i ys) : Fr h₀ L h m ∧ ∃ tn : List (Addr × Obj), ys = tn.map (fun p => Value.ref p.1) ∧ News h₀ L h (tn ++ news) ∧ tn.length = i ∧
      ∀ (j : Nat) (p : Addr × Obj), tn[j]? = some p → ∃ a t1 t2, ns[j]? = some a ∧ p.2 = itTup a t1 t2 := by
  obtain ⟨tn, e, h1, h2, h3⟩ := x
  refine ⟨⟨F.ns.keeps hk, fun b o e => hk b o (F.keep b o e), F.above⟩, tn, e, fun p hp => ?_, h2, h3⟩
  rcases List.mem_append.mp hp with hp | hp
  · have hb := h1 p hp
    have hL : L < h₁.objs.size := F.ns.lt
    refine ⟨hb.2, fun q => ?_, Heap.get?_none_of_le (Nat.le_trans F.above (Nat.le_of_lt (Nat.lt_of_lt_of_le hL (Nat.le_trans (Nat.le_add_right _ 3) hb.1))))⟩
    have z : h₁.objs.size + 3 ≤ (show Nat from p.1) := hb.1
    have z2 : (show Nat from L) < h₁.objs.size := hL
    rw [q] at z
    exact absurd z2 (Nat.not_lt.mpr (Nat.le_trans (Nat.le_add_right _ 3) z))
  · exact ⟨hk _ _ (N p hp).1, (N p hp).2⟩
end Mine
end

section
open PySem PySem.W PyProof.Rows PySem.Calls PySem.Spec
set_option Elab.async false
set_option maxRecDepth 100000
set_option maxHeartbeats 4000000
namespace Mine
/-! The row's items, and the row itself. -/
noncomputable def itOf (a : Int) : Nat × Nat := (sgnOf a, (a.fmod 4).toNat)
noncomputable def itsOf (ns : List Int) : List (Nat × Nat) := (49, 0) :: ns.map itOf
theorem items_hit {ns : List Int} {tn news : List (Addr × Obj)} {D : Addr} {k1 k2 : Tok} (hts : ∀ (j : Nat) (p : Addr × Obj), tn[j]? = some p → ∃ a t1 t2, ns[j]? = some a ∧ p.2 = itTup a t1 t2)
    (h1 : (D, tup [.str (Str.ofString "1") k1, .int 0 k2]) ∈ news) (h2 : ∀ p ∈ tn, p ∈ news) :
    ∀ (i : Nat) (v : Value), (Value.ref D :: tn.map (fun p => Value.ref p.1))[i]? = some v → ∃ T t1 t2 sg dp, (itsOf ns)[i]? = some (sg, dp) ∧ v = Value.ref T ∧ (T, tup [.str (S [sg]) t1, .int (dp : Nat) t2]) ∈ news := by
  intro i v hv
  cases i with
  | zero =>
    simp at hv
    have e : Str.ofString "1" = S [49] := by decide +kernel
    rw [e] at h1
    exact ⟨D, k1, k2, 49, 0, rfl, hv.symm, h1⟩
  | succ i =>
    simp only [List.getElem?_cons_succ, List.getElem?_map] at hv
    cases hp : tn[i]? with
    | none => rw [hp] at hv; cases hv
    | some p =>
      rw [hp] at hv
      obtain ⟨a, t1, t2, ha, hq⟩ := hts i p hp
      have hm := h2 p (List.mem_of_getElem? hp)
      obtain ⟨T, o⟩ := p
      simp only at hq
      subst hq
      refine ⟨T, t1, t2, sgnOf a, (a.fmod 4).toNat, ?_, (Option.some.inj hv).symm, hm⟩
      unfold itsOf
      simp only [List.getElem?_cons_succ, List.getElem?_map, ha]
      rfl
theorem itsOf_sign {ns : List Int} : ∀ it ∈ itsOf ns, it.1 = 34 ∨ (48 ≤ it.1 ∧ it.1 ≤ 57) := by
  intro it hi
  rcases List.mem_cons.mp hi with e | hi
  · rw [e]; exact .inr ⟨by decide, by decide⟩
  · obtain ⟨a, _, rfl⟩ := List.mem_map.mp hi
    show sgnOf a = 34 ∨ _
    have h0 : 0 ≤ (a.fdiv 4).fmod 16 := Int.fmod_nonneg_of_pos _ (by decide)
    have h1 : (a.fdiv 4).fmod 16 < 16 := Int.fmod_lt_of_pos _ (by decide)
    show sgnOf a = 34 ∨ (48 ≤ sgnOf a ∧ sgnOf a ≤ 57)
    unfold sgnOf
    generalize (a.fdiv 4).fmod 16 = i at *
    obtain ⟨n, rfl⟩ := Int.eq_ofNat_of_zero_le h0
    exact (by decide +kernel : ∀ n : Nat, n < 16 → (sgnList.getD (n : Int).toNat 34 = 34 ∨ (48 ≤ sgnList.getD (n : Int).toNat 34 ∧ sgnList.getD (n : Int).toNat 34 ≤ 57))) n (by omega)
theorem itsOf_depth {ns : List Int} : ∀ it ∈ itsOf ns, it.2 ≤ 3 := by
  intro it hi
  rcases List.mem_cons.mp hi with e | hi
  · rw [e]; decide
  · obtain ⟨a, _, rfl⟩ := List.mem_map.mp hi
    show (a.fmod 4).toNat ≤ 3
    have h1 : a.fmod 4 < 4 := Int.fmod_lt_of_pos _ (by decide)
    omega
/-- the comprehension of the row -/
def LfP (its : List (Nat × Nat)) (_ : Nat) (_ : Heap) (i : Nat) (ys : List Value) : Prop := StrsAre ys ((its.take i).map fun it => S (pc it.2 it.1))
def LfEnd (s₂ : Shared) (l : List Nat) (y : Value) (s₃ : Shared) : Prop := (∃ t, y = .str (S l) t) ∧ Keeps s₂ s₃
theorem strsAre_snoc : ∀ {ys : List Value} {ss : List Str} (_ : StrsAre ys ss) (x : Str) (t : Tok), StrsAre (ys ++ [.str x t]) (ss ++ [x])
  | _, _, .nil, x, t => .cons x t .nil
  | _, _, .cons y u h, x, t => .cons y u (strsAre_snoc h x t)
theorem LfP.step {its : List (Nat × Nat)} {N : Nat} {s₂ s₃ : Shared} {i sg dp : Nat} {ys : List Value} {y : Value} (x : LfP its N s₂.heap i ys) (hi : its[i]? = some (sg, dp)) (e : LfEnd s₂ (pc dp sg) y s₃) :
    Keeps s₂ s₃ ∧ LfP its N s₃.heap (i + 1) (ys ++ [y]) := by
  obtain ⟨⟨t, rfl⟩, hk⟩ := e
  refine ⟨hk, ?_⟩
  unfold LfP
  rw [List.take_add_one, hi, List.map_append]
  exact strsAre_snoc x _ t
theorem row_pow {dp : Nat} (hd : dp ≤ 3) : (2 : Int) ^ ((dp : Nat) : Int).toNat - 1 = ((2 ^ dp - 1 : Nat) : Int) ∧ 2 ^ dp - 1 ≤ 7 := by
  exact (by decide +kernel : ∀ dp : Nat, dp ≤ 3 → (2 : Int) ^ ((dp : Nat) : Int).toNat - 1 = ((2 ^ dp - 1 : Nat) : Int) ∧ 2 ^ dp - 1 ≤ 7) dp hd
theorem fr_up {h₀ h h' : Heap} {L : Addr} {m : Str → Option Value} (F : Fr h₀ L h m) (hk : ∀ b o, h.get? b = some o → h'.get? b = some o) : Fr h₀ L h' m := ⟨F.ns.keeps hk, fun b o e => hk b o (F.keep b o e), F.above⟩
theorem news_up {h₀ h h' : Heap} {L : Addr} {news : List (Addr × Obj)} (N : News h₀ L h news) (hk : ∀ b o, h.get? b = some o → h'.get? b = some o) : News h₀ L h' news := fun p hp => ⟨hk _ _ (N p hp).1, (N p hp).2⟩
theorem join_flat : ∀ ls : List (List Nat), Str.join (Str.ofString "") (ls.map S) = S ls.flatten
  | [] => rfl
  | [l] => by show S l = _; simp
  | l :: l' :: r => by
    have e : Str.ofString "" = S [] := by decide +kernel
    have ih := join_flat (l' :: r)
    show S l ++ Str.ofString "" ++ Str.join (Str.ofString "") ((l' :: r).map S) = _
    rw [ih, e, S_append, S_append]
    simp
theorem row_strs {its : List (Nat × Nat)} {N i : Nat} {h : Heap} {ys : List Value} (hi : i = its.length) (x : LfP its N h i ys) : StrsAre ys ((its.map fun it => pc it.2 it.1).map S) := by
  unfold LfP at x
  rw [hi, List.take_length] at x
  rw [List.map_map]
  exact x
theorem pc_len {dp sg : Nat} (h : dp ≤ 3) : (pc dp sg).length ≤ 8 := by
  unfold pc
  rw [List.length_append, List.length_replicate]
  have := (row_pow h).2
  simp only [List.length_cons, List.length_nil]
  omega
theorem row_fits : ∀ {its : List (Nat × Nat)} (_ : ∀ it ∈ its, it.2 ≤ 3), its.length ≤ 13 → ((((its.map fun it => pc it.2 it.1).map S)).map (·.length)).sum ≤ 8 * its.length
  | [], _, _ => by simp
  | it :: r, h, hl => by
    have ih := row_fits (its := r) (fun x hx => h x (List.mem_cons_of_mem _ hx)) (by simp at hl; omega)
    have h1 := pc_len (sg := it.1) (h it (List.mem_cons_self ..))
    simp only [List.map_cons, List.sum_cons, List.length_cons]
    have h2 : (S (pc it.2 it.1)).length = (pc it.2 it.1).length := rfl
    omega
theorem row_join {prog : Program} {w : World} {A : Around} {E : Value → Shared → Prop} {s : Shared} {t : Tok} {D : Addr} {ys : List Value} {ls : List (List Nat)} {n : Nat} {Q : Value → Shared → Prop} (hl : s.heap.IsList D ys.toArray) (hi : StrsAre ys (ls.map S))
    (hf : ((ls.map S).map (·.length)).sum ≤ 8 * n ∧ n ≤ 13) (h : ∀ t' k, Q (.str (S ls.flatten) t') { s with toks := k }) : wpAny (model prog w) A (call (.builtin "str.join") [.str (Str.ofString "") t, .ref D]) Q E s := by
  have e0 : (Str.ofString "").length = 0 := by decide +kernel
  refine PyProof.Rows.join_list hl (by simpa using hi) (by rw [e0]; omega) fun t' k => ?_
  have e : Txt.join (Str.ofString "") (ls.map S) = S ls.flatten := by
    show Builtin.Str.glued _ _ = _
    rw [StrLaws.glued_eq_join, join_flat]
  rw [e]
  exact h t' k
end Mine
end

section
open PySem PySem.W PyProof.Rows PySem.Calls PySem.Spec
set_option Elab.async false
set_option maxRecDepth 100000
set_option maxHeartbeats 4000000
namespace Mine
/-! Rules for statements inside a generator. -/
section
variable {M : Model} {A : Around} {R : GenEnd} {Y : Protocol} {n : Nat} {s₀ : Shared} {c : Code} {fs : List Frame} {s : Shared} {env : Env}
  {K : Flow → Sem Fin} {H : Value → Sem Fin} {gd : Bool → Bool} {lv : List Value → List Value}
abbrev noE : Value → Shared → Prop := fun _ _ => False
theorem seg_bw {α β : Type} {m : Sem α} {k : α → Sem β} {K' : β → Sem Fin}
    (h : wpAny M (A.over c fs) m (fun a s' => Seg M A R Y n s₀ c ((k a).wrap K' H gd lv) fs s') noE s) : Seg M A R Y n s₀ c ((m >>= k).wrap K' H gd lv) fs s := by
  rw [Sem.bind_eq_wrap', Sem.wrap_wrap]; exact seg_wrap (wpAny_mono h (fun _ _ x => x) fun _ _ x => x.elim)
theorem seg_plain {st : Stmt} {rest : List Stmt}
    (h : wpAny M (A.over c fs) (exec st env) (fun f s' => f = .next ∧ Seg M A R Y n s₀ c ((execs rest env).wrap K H gd lv) fs s') noE s) :
    Seg M A R Y n s₀ c ((execs (st :: rest) env).wrap K H gd lv) fs s :=
  seg_execs_cons (seg_wrap (wpAny_mono h (fun f s' x => by obtain ⟨rfl, x⟩ := x; exact x) fun _ _ x => x.elim))
theorem seg_If {test : Expr} {body orelse : List Stmt} {pos : Pos}
    (h : wpAny M (A.over c fs) (isTrue test env (eval test env)) (fun b s' => Seg M A R Y n s₀ c ((if b = true then execs body env else execs orelse env).wrap K H gd lv) fs s') noE s) :
    Seg M A R Y n s₀ c ((exec (.If test body orelse pos) env).wrap K H gd lv) fs s := by
  rw [exec_If]
  exact seg_bw (wpAny_standAt (seg_bw h))
theorem seg_For {target iter : Expr} {body orelse : List Stmt} {pos : Pos} (hs : ∀ x, foldedSetIterable iter env x = pure x)
    (h : wpAny M (A.over c fs) (eval iter env) (fun x s₁ => wpAny M (A.over c fs) (pyIter x) (fun it s₂ => ∀ p, Seg M A R Y n s₀ (.forLoop target it body orelse env) (M.den (.forLoop target it body orelse env))
      (.ret (fun r => ((match r with | .ok f => (.pure f : Sem Flow) | .error e => .raise e).onRaise fun (x : Value) => do
        if (← field x 1) == Value.none then unsupported "frame.own-activation:exception-without-traceback"
        setFlight x env.frame).wrap K H gd lv) none (gd false) (lv []) c p [] :: fs) s₂) noE s₁) noE s) :
    Seg M A R Y n s₀ c ((exec (.For target iter body orelse pos) env).wrap K H gd lv) fs s := by
  rw [exec_For]
  refine seg_bw (wpAny_standAt (seg_bw (wpAny_mono h (fun x s₁ h₁ => ?_) fun _ _ z => z)))
  rw [hs]
  refine seg_bw (wpAny_pure (seg_bw (wpAny_standAt (seg_bw (wpAny_holding (wpAny_mono h₁ (fun it s₂ h₂ => ?_) fun _ _ z => z))))))
  exact seg_call h₂
end
section
variable {prog : Program} {w : World} {A : Around} {R : GenEnd} {Y : Protocol} {n : Nat} {s₀ : Shared} {fs : List Frame} {s : Shared} {env : Env}
noncomputable abbrev loopK (C : Code) : Flow → Sem Fin := fun f => match f with
  | .next | .cont => .pure (.again C)
  | .brk => .pure (.done .next)
  | .ret v => .pure (.done (.ret v))
noncomputable abbrev noteH (env : Env) : Value → Sem Fin := fun e => (do noteFrame e env; theTreesLotGoes e : Sem Unit).wrap (fun _ => .raise e) .raise id id
theorem seg_forLoop {target : Expr} {it : Value} {body orelse : List Stmt}
    (h : wpAny (model prog w) (A.over (.forLoop target it body orelse env) fs) (pyNext it) (fun r s₁ => match r with
      | none => Seg (model prog w) A R Y n s₀ (.block orelse env) ((model prog w).den (.block orelse env)) fs s₁
      | some v => wpAny (model prog w) (A.over (.forLoop target it body orelse env) fs) (letOwnedTupleGo target it v) (fun _ s₂ => wpAny (model prog w) (A.over (.forLoop target it body orelse env) fs) (assign target env v) (fun _ s₃ =>
          Seg (model prog w) A R Y n s₀ (.forLoop target it body orelse env) ((execs body env).wrap (loopK (.forLoop target it body orelse env)) (noteH env) id id) fs s₃) noE s₂) noE s₁) noE s) :
    Seg (model prog w) A R Y n s₀ (.forLoop target it body orelse env) ((model prog w).den (.forLoop target it body orelse env)) fs s := by
  show Seg _ A R Y n s₀ _ ((forTurn target it body orelse env).onRaise (fun x => do noteFrame x env; theTreesLotGoes x)) fs s
  unfold forTurn
  rw [Sem.onRaise_eq_wrap]
  refine seg_bw (wpAny_standAt (seg_bw (wpAny_onRaise (wpAny_mono h (fun r s₁ h₁ => ?_) fun _ _ z => z.elim))))
  cases r with
  | none => exact seg_again rfl h₁
  | some v =>
    refine seg_bw (wpAny_mono h₁ (fun _ s₂ h₂ => seg_bw (wpAny_mono h₂ (fun _ s₃ h₃ => ?_) fun _ _ z => z)) fun _ _ z => z)
    rw [Sem.bind_eq_wrap', Sem.wrap_wrap]
    rw [Sem.wrap_congr (execs body env) _ _ (K' := loopK (.forLoop target it body orelse env)) (H' := noteH env) (fun f => by cases f <;> rfl)
      (fun e => by first | exact Sem.bind_eq_wrap _ _ | (show (do noteFrame e env; theTreesLotGoes e : Sem Unit).bind (fun _ => .raise e) = _; rw [Sem.bind_eq_wrap]))]
    exact h₃
theorem seg_block_nil (h : Seg (model prog w) A R Y n s₀ (.block [] env) (.pure (.done .next)) fs s) :
    Seg (model prog w) A R Y n s₀ (.block [] env) ((model prog w).den (.block [] env)) fs s := h
end
end Mine
end

section
open PySem PySem.W PyProof.Rows PySem.Calls PySem.Spec
set_option Elab.async false
set_option maxRecDepth 100000
set_option maxHeartbeats 4000000
namespace Mine
/-- the old part of a heap -/
noncomputable def low (N₀ : Nat) (h : Heap) : Heap := ⟨h.objs.extract 0 N₀, h.life⟩
theorem extract_at {α : Type} (xs : Array α) (N₀ b : Nat) : (xs.extract 0 N₀)[b]? = if b < N₀ then xs[b]? else none := by
  rw [Array.getElem?_extract]
  simp only [Nat.zero_add, Nat.sub_zero]
  by_cases hb : b < N₀
  · rw [if_pos hb]
    by_cases hc : b < xs.size
    · rw [if_pos (by omega)]
    · rw [if_neg (by omega), Array.getElem?_eq_none (by omega)]
  · rw [if_neg hb, if_neg (by omega)]
theorem low_some {N₀ : Nat} {h : Heap} {b : Addr} {o : Obj} : (low N₀ h).get? b = some o ↔ LT.lt (α := Nat) b N₀ ∧ h.get? b = some o := by
  show (match (h.objs.extract 0 N₀)[b]? with | some ⟨_, _, .freed, _⟩ => none | o => o) = _ ↔ _
  have e := extract_at h.objs N₀ b
  by_cases hb : LT.lt (α := Nat) b N₀
  · rw [if_pos hb] at e; rw [e]; exact Iff.intro (fun x => And.intro hb x) (fun x => x.2)
  · rw [if_neg hb] at e; rw [e]; exact Iff.intro (fun x => (by cases x)) (fun x => absurd x.1 hb)
theorem low_not {N₀ : Nat} {h : Heap} {b : Addr} {o : Obj} (hb : LE.le (α := Nat) N₀ b) (e : (low N₀ h).get? b = some o) : False := Nat.not_lt.mpr hb (low_some.mp e).1
theorem low_none {N₀ : Nat} {h : Heap} {b : Addr} (hb : LE.le (α := Nat) N₀ b) : (low N₀ h).get? b = none := by
  cases e : (low N₀ h).get? b with
  | none => rfl
  | some o => exact (low_not hb e).elim
theorem low_size {N₀ : Nat} {h : Heap} : (low N₀ h).objs.size ≤ N₀ := by
  show (h.objs.extract 0 N₀).size ≤ N₀
  rw [Array.size_extract]; omega
theorem news3 {g h : Heap} {L en it a : Addr} {oe oi oa : Obj} (e1 : h.get? en = some oe) (e2 : h.get? it = some oi) (e3 : h.get? a = some oa) (h1 : en ≠ L) (h2 : it ≠ L) (h3 : a ≠ L) (h4 : g.get? en = none) (h5 : g.get? it = none) (h6 : g.get? a = none) : News g L h [(en, oe), (it, oi), (a, oa)] := fun q hq => by
  rcases List.mem_cons.mp hq with z | hq
  · rw [z]; exact ⟨e1, h1, h4⟩
  rcases List.mem_cons.mp hq with z | hq
  · rw [z]; exact ⟨e2, h2, h5⟩
  · rw [List.mem_singleton.mp hq]; exact ⟨e3, h3, h6⟩
def Since (N₀ : Nat) (a : Addr) (oa : Obj) (s₀ s : Shared) : Prop := ∃ h tk, s = { s₀ with heap := h, toks := tk } ∧ (∀ b o, (low N₀ s₀.heap).get? b = some o → h.get? b = some o) ∧ h.get? a = some oa
def gY (N₀ : Nat) (a : Addr) (oa : Obj) (all : List (Nat × List Nat)) : Protocol := fun m s₀ v s kap =>
  (∃ T t1 t2 p x, all[all.length - 1 - m]? = some (p, x) ∧ v = .ref T ∧ s.heap.get? T = some (tup [.int ((p : Nat) : Int) t1, .str (S x) t2]) ∧ (low N₀ s₀.heap).get? T = none) ∧
  Since N₀ a oa s₀ s ∧ ∃ fp : List Addr, (∀ b ∈ fp, LE.le (α := Nat) N₀ b) ∧ ∀ s'' : Shared, (∀ b ∈ fp, ∀ o, s.heap.get? b = some o → s''.heap.get? b = some o) → kap (.send .none) s''
def gR (N₀ : Nat) (a : Addr) (oa : Obj) : GenEnd := fun n s₀ r s₁ => r = .ok (.ret .none) ∧ (n = 0 ∧ Since N₀ a oa s₀ s₁)
section
variable {prog : Program} {w : World} {A : Around} {R : GenEnd} {Y : Protocol} {fs : List Frame} {env : Env}
theorem escF_step {l : List Nat} {i ch : Nat} {e : Bool} (h : l[i]? = some ch) : escF e i (l.drop i) = (if e = true then [(i, [92, ch])] else if ch = 92 then [] else [(i, [ch])]) ++ escF (!e && ch == 92) (i + 1) (l.drop (i + 1)) := by
  obtain ⟨hi, rfl⟩ := List.getElem?_eq_some_iff.mp h
  rw [List.drop_eq_getElem_cons hi]
  cases e with
  | true => rw [escF]; rfl
  | false =>
    rw [escF]
    by_cases hc : l[i] = 92
    · rw [if_pos hc, if_neg Bool.false_ne_true, if_pos hc, hc]; rfl
    · have : (l[i] == 92) = false := by simpa using hc
      rw [if_neg hc, if_neg Bool.false_ne_true, if_neg hc, this]; rfl
theorem idx_of {α : Type} {all pre rest : List α} {y : α} (h : all = pre ++ y :: rest) : all[all.length - 1 - rest.length]? = some y := by
  subst h
  rw [List.length_append, List.length_cons, show pre.length + (rest.length + 1) - 1 - rest.length = pre.length by omega, List.getElem?_append_right (Nat.le_refl _), Nat.sub_self]
  rfl
theorem yield_ok {N₀ k p : Nat} {a T Lg : Addr} {oa : Obj} {all pre rest : List (Nat × List Nat)} {x : List Nat} {t1 t2 : Tok} {s₀ s' : Shared} {kap : Resume → Shared → Prop} {m' : Str → Option Value} {nw keep : List (Addr × Obj)}
    (hidx : all = pre ++ (p, x) :: rest) (hk : k = rest.length) (F : Fr (low N₀ s₀.heap) Lg s'.heap m') (N : News (low N₀ s₀.heap) Lg s'.heap nw) (hT : (T, tup [.int ((p : Nat) : Int) t1, .str (S x) t2]) ∈ nw)
    (hkeep : ∀ q ∈ keep, q ∈ nw ∧ LE.le (α := Nat) N₀ q.1) (ha : (a, oa) ∈ keep) (hL : LE.le (α := Nat) N₀ Lg) (hs : ∃ h tk, s' = { s₀ with heap := h, toks := tk })
    (h : ∀ s'' : Shared, Fr (low N₀ s''.heap) Lg s''.heap m' → News (low N₀ s''.heap) Lg s''.heap keep → Since N₀ a oa s'' s'' → kap (.send .none) s'') : gY N₀ a oa all k s₀ (.ref T) s' kap := by
  obtain ⟨h', tk', rfl⟩ := hs
  refine ⟨⟨T, t1, t2, p, x, by rw [hk]; exact idx_of hidx, rfl, (N _ hT).1, (N _ hT).2.2⟩, ⟨h', tk', rfl, F.keep, (N _ (hkeep _ ha).1).1⟩, Lg :: keep.map (·.1), fun b hb => ?_, fun s'' hag => h s'' ⟨F.ns.at' fun o e => hag _ (List.mem_cons_self ..) o e, fun b o e => (low_some.mp e).2, Nat.le_trans low_size hL⟩ (fun q hq => ?_) ⟨s''.heap, s''.toks, rfl, fun b o e => (low_some.mp e).2, ?_⟩⟩
  · rcases List.mem_cons.mp hb with e | hb
    · rw [e]; exact hL
    · obtain ⟨q, hq, rfl⟩ := List.mem_map.mp hb
      exact (hkeep q hq).2
  · exact ⟨hag _ (List.mem_cons_of_mem _ (List.mem_map.mpr ⟨q, hq, rfl⟩)) _ (N q (hkeep q hq).1).1, (N q (hkeep q hq).1).2.1, low_none (hkeep q hq).2⟩
  · exact hag a (List.mem_cons_of_mem _ (List.mem_map.mpr ⟨_, ha, rfl⟩)) _ (N _ (hkeep _ ha).1).1
theorem seg_forC {n : Nat} {s₀ s : Shared} {C : Code} {target : Expr} {it : Value} {body orelse : List Stmt} (hC : C = .forLoop target it body orelse env)
    (h : wpAny (model prog w) (A.over C fs) (pyNext it) (fun r s₁ => match r with
      | none => Seg (model prog w) A R Y n s₀ (.block orelse env) ((model prog w).den (.block orelse env)) fs s₁
      | some v => wpAny (model prog w) (A.over C fs) (letOwnedTupleGo target it v) (fun _ s₂ => wpAny (model prog w) (A.over C fs) (assign target env v) (fun _ s₃ =>
          Seg (model prog w) A R Y n s₀ C ((execs body env).wrap (loopK C) (noteH env) id id) fs s₃) noE s₂) noE s₁) noE s) :
    Seg (model prog w) A R Y n s₀ C ((model prog w).den C) fs s := by
  subst hC
  exact seg_forLoop h
theorem seg_enum {all : List (Nat × List Nat)} {l : List Nat} {tl : Tok} {en it a : Addr} {oa : Obj} {N₀ : Nat} {pk pv pt : Pos} {x1 : Nat} {body : List Stmt} {T : Expr} {C : Code}
    (hT : T = .Tuple [.Name (Str.ofString "pos") pk, .Name (Str.ofString "ch") pv] x1 pt) (hC : C = .forLoop T (.ref en) body [] env)
    (hh : (A.over C fs).handled = none) 
    (hxi : env.kindOf (Str.ofString "pos") = some .local) (hxc : env.kindOf (Str.ofString "ch") = some .local)
    (hp : (env.scope.kind == .class || (env.scope.kind == .module && env.locals != env.globals)) = false)
    (hL : LE.le (α := Nat) N₀ env.locals) (hen : LE.le (α := Nat) N₀ en) (hit : LE.le (α := Nat) N₀ it) (hei : en ≠ it) (heL : en ≠ env.locals) (hiL : it ≠ env.locals)
    (haN : LE.le (α := Nat) N₀ a) (hae : a ≠ en) (hai : a ≠ it) (haL : a ≠ env.locals)
    (step : ∀ (i : Nat) (e : Bool) (ch : Nat) (s₀ s : Shared) (m : Str → Option Value) (oe oi : Obj) (t u : Tok), l[i]? = some ch → (∃ pre, all = pre ++ escF e i (l.drop i)) → m (Str.ofString "escape") = some (.bool e) →
      Fr (low N₀ s₀.heap) env.locals s.heap (fun y => if y = Str.ofString "ch" then some (.str (S [ch]) u) else if y = Str.ofString "pos" then some (.int (i : Int) t) else if y = Str.ofString "escape" then some (.bool e) else m y) →
      News (low N₀ s₀.heap) env.locals s.heap [(en, oe), (it, oi), (a, oa)] → Since N₀ a oa s₀ s →
      (∀ (s₀' s' : Shared) (m' : Str → Option Value), Fr (low N₀ s₀'.heap) env.locals s'.heap m' → News (low N₀ s₀'.heap) env.locals s'.heap [(en, oe), (it, oi), (a, oa)] → m' (Str.ofString "escape") = some (.bool (!e && ch == 92)) → m' (Str.ofString "pos") = some (.int (i : Int) t) → Since N₀ a oa s₀' s' →
        Seg (model prog w) A R Y (escF (!e && ch == 92) (i + 1) (l.drop (i + 1))).length s₀' C (.pure (.again C)) fs s') →
      Seg (model prog w) A R Y (escF e i (l.drop i)).length s₀ C ((execs body env).wrap (loopK C) (noteH env) id id) fs s)
    (fin : ∀ (e : Bool) (s₀ s : Shared) (m : Str → Option Value), (∃ pre, all = pre ++ escF e l.length []) → ∀ t, Fr (low N₀ s₀.heap) env.locals s.heap (fun y => if y = Str.ofString "pos" then some (.int ((l.length - 1 : Nat) : Int) t) else if y = Str.ofString "escape" then some (.bool e) else m y) → Since N₀ a oa s₀ s →
      Seg (model prog w) A R Y (escF e l.length []).length s₀ (.block [] env) (.pure (.done .next)) fs s) :
    ∀ (k i : Nat) (e : Bool) (s₀ s : Shared) (m : Str → Option Value), (∃ pre, all = pre ++ escF e i (l.drop i)) → l.length - i = k → i ≤ l.length → (∃ old, IsEnum s.heap en it i old) → s.heap.IsStrIter it "str_ascii_iterator" (S l) tl i → s.heap.Ns env.locals m → m (Str.ofString "escape") = some (.bool e) →
      (∃ t, m (Str.ofString "pos") = some (.int ((i - 1 : Nat) : Int) t)) → Since N₀ a oa s₀ s →
      Seg (model prog w) A R Y (escF e i (l.drop i)).length s₀ C ((model prog w).den C) fs s := by
  have hsz : (S l).cps.size = l.length := by simp [S]
  have W := WalksT.enumerateD (Draws.strAscii (prog := prog) (w := w) (A := (A.over C fs).in1) hh it (S l) tl) en hei (by simpa using hei) (by simp)
  rw [hsz] at W
  have hC9 := hC.trans (congrArg (fun T => Code.forLoop T (.ref en) body [] env) hT)
  intro k
  induction k with
  | zero =>
    intro i e s₀ s m hsuf hk hi hE hS hn he hpos hs
    have aw : a ∉ [en, it] := fun hm => (List.mem_cons.mp hm).elim hae fun q => hai (List.mem_singleton.mp q)
    have hin : i = l.length := by omega
    subst hin
    refine seg_forC hC9 (W.done s _ _ ⟨hE, hS⟩ fun h' tk hk' => ?_)
    refine seg_block_nil ?_
    obtain ⟨h₁, tk₁, rfl, hk₁, hoa⟩ := hs
    rw [List.drop_length]
    have fr : ∀ b o, (low N₀ s₀.heap).get? b = some o → h'.get? b = some o := fun b o hb => hk' b o (fun hm => by
      rcases List.mem_cons.mp hm with q | q
      · exact low_not hen (q ▸ hb)
      · exact low_not hit (List.mem_singleton.mp q ▸ hb)) (hk₁ b o hb)
    have hn' : h'.Ns env.locals m := hn.at' fun o z => hk' _ o (fun hm => by
      rcases List.mem_cons.mp hm with q | q
      · exact heL q.symm
      · exact hiL (List.mem_singleton.mp q).symm) z
    rw [List.drop_length] at hsuf
    obtain ⟨tp, hpos⟩ := hpos
    rw [show m = (fun y => if y = Str.ofString "pos" then some (.int ((l.length - 1 : Nat) : Int) tp) else if y = Str.ofString "escape" then some (.bool e) else m y) from funext fun y => by rw [upd_pt he, upd_pt hpos]] at hn'
    exact fin e s₀ _ m hsuf tp ⟨hn', fr, Nat.le_trans low_size hL⟩ ⟨h', tk, rfl, fr, hk' a oa aw hoa⟩
  | succ k ih =>
    intro i e s₀ s m hsuf hk hi hE hS hn he hpos hs
    have aw : a ∉ [en, it] := fun hm => (List.mem_cons.mp hm).elim hae fun q => hai (List.mem_singleton.mp q)
    have hlt : i < l.length := by omega
    have hg : l[i]? = some l[i] := List.getElem?_eq_getElem hlt
    obtain ⟨h₁, tk₁, rfl, hk₁, hoa⟩ := hs
    refine seg_forC hC9 (W.item i _ _ _ hlt ⟨hE, hS⟩ fun Tt vals h₂ tk₂ hPt hsT hTup hMid hk₂ => ?_)
    refine hide fun G9 k9 => ?_
    obtain ⟨t, x, ⟨c, u, hc, ex⟩, ev⟩ := hPt
    subst ex
    subst ev
    refine k9 ?_
    clear k9
    have hcc : l[i] = c := by
      have : (S l).cps[i]? = l[i]? := by simp [S]
      rw [this, hg] at hc
      exact Option.some.inj hc
    have hTw := W.apart _ _ _ hMid
    refine W.go _ _ _ i Tt _ _ _ hMid fun h₃ hSt₃ hk₃ => ?_
    have hTup₃ : h₃.IsTuple Tt #[.int (i : Int) t, .str ⟨#[c]⟩ u] := by
      obtain ⟨o, ho, r⟩ := hTup
      exact ⟨o, hk₃ _ _ hTw ho, r⟩
    have notwr : ∀ b o, (low N₀ s₀.heap).get? b = some o → b ∉ [en, it] := fun b o hb hm => by
      rcases List.mem_cons.mp hm with q | q
      · exact low_not hen (q ▸ hb)
      · exact low_not hit (List.mem_singleton.mp q ▸ hb)
    have Lnot : env.locals ∉ [en, it] := fun hm => by
      rcases List.mem_cons.mp hm with q | q
      · exact heL q.symm
      · exact hiL (List.mem_singleton.mp q).symm
    have fr₃ : ∀ b o, (low N₀ s₀.heap).get? b = some o → h₃.get? b = some o := fun b o hb => hk₃ b o (notwr b o hb) (hk₂ b o (notwr b o hb) (hk₁ b o hb))
    have hn₃ : h₃.Ns env.locals m := hn.at' fun o z => hk₃ _ o Lnot (hk₂ _ o Lnot z)
    refine wpAny_assign_Tuple hh hTup₃ rfl rfl fun h₄ hx₄ => ?_
    replace hx₄ : Heap.ExtBut h₃.objs.size h₃ h₄ := hx₄
    have up₄ : ∀ b o, h₃.get? b = some o → h₄.get? b = some o := fun b o z => hx₄ b o (Nat.ne_of_lt (Heap.lt_size z)) z
    have hn₄ : h₄.Ns env.locals m := hn₃.at' fun o z => up₄ _ o z
    show wpAny _ _ (do holding [.str ⟨#[c]⟩ u] (assign (.Name (Str.ofString "pos") pk) env (.int (i : Int) t)); do holding [] (assign (.Name (Str.ofString "ch") pv) env (.str ⟨#[c]⟩ u)); pure ()) _ _ _
    refine wpAny_bind (wpAny_holding (wpAny_assign_Name (wpAny_storeName_local hxi hn₄ (fun h₅ hn₅ hs₅ => ?_) hp)))
    replace hs₅ : Heap.SameBut env.locals h₄ h₅ := hs₅
    refine wpAny_bind (wpAny_holding (wpAny_assign_Name (wpAny_storeName_local hxc hn₅ (fun h₆ hn₆ hs₆ => wpAny_pure ?_) hp)))
    replace hs₆ : Heap.SameBut env.locals h₅ h₆ := hs₆
    have up₆ : ∀ b o, b ≠ env.locals → h₃.get? b = some o → h₆.get? b = some o := fun b o hb z => hs₆.extBut b o hb (hs₅.extBut b o hb (up₄ b o z))
    have lowL : ∀ b o, (low N₀ s₀.heap).get? b = some o → b ≠ env.locals := fun b o hb q => low_not hL (q ▸ hb)
    have fr₆ : ∀ b o, (low N₀ s₀.heap).get? b = some o → h₆.get? b = some o := fun b o hb => up₆ b o (lowL b o hb) (fr₃ b o hb)
    obtain ⟨⟨old, hE₃⟩, hI₃⟩ := hSt₃
    obtain ⟨oi, hoi, hci, hdi⟩ := hI₃
    have e6 := up₆ en _ heL hE₃
    have i6 := up₆ it _ hiL hoi
    have a6 := up₆ a _ haL (hk₃ _ _ aw (hk₂ _ _ aw hoa))
    subst hcc
    rw [show m = (fun y => if y = Str.ofString "escape" then some (.bool e) else m y) from funext fun y => by rw [upd_pt he]] at hn₆
    refine step i e l[i] s₀ _ m _ oi t u hg hsuf he ⟨hn₆, fr₆, Nat.le_trans low_size hL⟩ (news3 e6 i6 a6 heL hiL haL (low_none hen) (low_none hit) (low_none haN)) ⟨h₆, _, rfl, fr₆, a6⟩ (fun s₀' s' m' F' N' he' hp' hs' => ?_)
    · refine seg_again (by rw [hC9]; rfl) (ih (i + 1) _ s₀' s' m' (by obtain ⟨pre, hpre⟩ := hsuf; rw [escF_step hg, ← List.append_assoc] at hpre; exact ⟨_, hpre⟩) (by omega) hlt ⟨old, ?_⟩ ⟨oi, (N' _ (List.mem_cons_of_mem _ (List.mem_cons_self ..))).1, hci, hdi⟩ F'.ns he' ⟨t, by simpa using hp'⟩ hs')
      have z := (N' _ (List.mem_cons_self ..)).1
      show _ = some _
      rw [show ((i + 1 : Nat) : Int) = (i : Int) + 1 by push_cast; rfl]
      exact z
end
end Mine
end

section
open PySem PySem.W PyProof.Rows PySem.Calls PySem.Spec
set_option Elab.async false
set_option maxRecDepth 100000
set_option maxHeartbeats 4000000
namespace Mine
noncomputable abbrev genObj (g : Nat) (nm qn : Value) : Obj := { cls := .type "generator", data := .fields #[.int g 0, nm, qn] }
noncomputable def opV (op : Option Nat) (u : Tok) : Value := match op with | none => .none | some o => .int ((o : Nat) : Int) u
/-- where a turn of the striking's loop ends -/
inductive SEnd (h₀ : Heap) (L : Addr) (rest : List (Addr × Obj)) (D : Addr) (l : List Nat) (t : Tok) (st : StSt) (s₁ : Shared) : Flow → Shared → Prop
  | mk (h : Heap) (tk : Nat) (vs : List Value) (n : Nat) (m₂ : Str → Option Value) (u1 u2 : Tok) (F : Fr h₀ L h m₂) (N : News h₀ L h ((D, W.listOf vs.toArray n) :: rest)) (hv : StrsAre vs (st.2.2.map S))
    (m1 : m₂ (Str.ofString "addr") = some (.str (S l) t)) (m2 : m₂ (Str.ofString "start") = some (.int ((st.1 : Nat) : Int) u1)) (m3 : m₂ (Str.ofString "open_pos") = some (opV st.2.1 u2)) (m4 : m₂ (Str.ofString "result") = some (.ref D)) :
    SEnd h₀ L rest D l t st s₁ .next { s₁ with heap := h, toks := tk }
inductive SInv (prog : Program) (w : World) (A : Around) (h₀ : Heap) (L : Addr) (N₀ a g : Nat) (nm qn : Value) (D : Addr) (l : List Nat) (t : Tok) (news : List (Addr × Obj)) (all : List (Nat × List Nat)) (gens₀ : Array GenState) (s : Shared) : Nat → Shared → Prop
  | mk (h : Heap) (tk : Nat) (gs : GenState) (m : Str → Option Value) (vs : List Value) (n : Nat) (u1 u2 : Tok) (j : Nat) (ho : h.get? a = some (genObj g nm qn)) (F : Fr h₀ L h m) (N : News h₀ L h ((D, W.listOf vs.toArray n) :: news))
    (hv : StrsAre vs (((all.take j).foldl (stStep l) (0, none, [])).2.2.map S)) (m1 : m (Str.ofString "addr") = some (.str (S l) t)) (m2 : m (Str.ofString "start") = some (.int ((((all.take j).foldl (stStep l) (0, none, [])).1 : Nat) : Int) u1))
    (m3 : m (Str.ofString "open_pos") = some (opV ((all.take j).foldl (stStep l) (0, none, [])).2.1 u2)) (m4 : m (Str.ofString "result") = some (.ref D))
    (hgo : gs.Goes (model prog w) A.in1 (gR N₀ a (genObj g nm qn)) (gY N₀ a (genObj g nm qn) all) (all.length - j) (.send .none) (({ s with heap := h, toks := tk, gens := gens₀.push gs } : Shared).setGen g .running)) (hj : j ≤ all.length) :
    SInv prog w A h₀ L N₀ a g nm qn D l t news all gens₀ s (all.length + 1 - j) { s with heap := h, toks := tk, gens := gens₀.push gs }
theorem push_set {α : Type} (xs : Array α) (a b : α) : (xs.push a).setIfInBounds xs.size b = xs.push b := by
  apply Array.ext
  · simp
  · intro i h1 h2
    simp only [Array.size_setIfInBounds, Array.size_push] at h1
    by_cases hi : i = xs.size
    · subst hi; simp
    · rw [Array.getElem_setIfInBounds (by simpa using h1)]
      rw [if_neg (fun q => hi q.symm), Array.getElem_push_lt (by omega), Array.getElem_push_lt (by omega)]
section
variable {prog : Program} {w : World} {A : Around} {s : Shared} {env : Env} {h₀ : Heap}
theorem strip_loop {R : Result → Shared → Prop} {pk pv pt : Pos} {x1 : Nat} {body : List Stmt} {a D : Addr} {N₀ g : Nat} {nm qn : Value} {l : List Nat} {t u0 : Tok} {gens₀ : Array GenState} {gs₀ : GenState} {n₀ : Nat} {vs₀ : List Value}
    {m : Str → Option Value} {news : List (Addr × Obj)} {all : List (Nat × List Nat)}
    (hh : A.handled = none) (hroom : A.depth < recursionLimit) (hlim : h₀.NoLimit)
    (hxi : env.kindOf (Str.ofString "pos") = some .local) (hxc : env.kindOf (Str.ofString "ch") = some .local)
    (hp : (env.scope.kind == .class || (env.scope.kind == .module && env.locals != env.globals)) = false)
    (hgens : s.gens = gens₀.push gs₀) (hg : g = gens₀.size) (hoa : s.heap.get? a = some (genObj g nm qn))
    (hLN : LT.lt (α := Nat) env.locals N₀) (haN : LE.le (α := Nat) N₀ a) (hnN : ∀ p ∈ news, LT.lt (α := Nat) p.1 N₀) (hDN : LT.lt (α := Nat) D N₀) (hnD : ∀ p ∈ news, p.1 ≠ D)
    (F : Fr h₀ env.locals s.heap m) (N : News h₀ env.locals s.heap ((D, W.listOf vs₀.toArray n₀) :: news)) (hvs : StrsAre vs₀ [])
    (m1 : m (Str.ofString "addr") = some (.str (S l) t)) (m2 : m (Str.ofString "start") = some (.int 0 u0)) (m3 : m (Str.ofString "open_pos") = some .none) (m4 : m (Str.ofString "result") = some (.ref D))
    (hgo : gs₀.Goes (model prog w) A.in1 (gR N₀ a (genObj g nm qn)) (gY N₀ a (genObj g nm qn) all) all.length (.send .none) (s.setGen g .running))
    (step : ∀ (j p : Nat) (x : List Nat) (st : StSt) (t1 t2 u1 u2 : Tok) (vs : List Value) (n : Nat) (m₁ : Str → Option Value) (s₁ : Shared) (own : List (Addr × Obj)), all[j]? = some (p, x) → st = (all.take j).foldl (stStep l) (0, none, []) → StrsAre vs (st.2.2.map S) →
      Fr h₀ env.locals s₁.heap (fun y => if y = Str.ofString "ch" then some (.str (S x) t2) else if y = Str.ofString "pos" then some (.int ((p : Nat) : Int) t1) else if y = Str.ofString "addr" then some (.str (S l) t) else
        if y = Str.ofString "start" then some (.int ((st.1 : Nat) : Int) u1) else if y = Str.ofString "open_pos" then some (opV st.2.1 u2) else if y = Str.ofString "result" then some (.ref D) else m₁ y) →
      News h₀ env.locals s₁.heap ((D, W.listOf vs.toArray n) :: (own ++ news)) → (∀ p ∈ own ++ news, p.1 ≠ D) →
      wpAny (model prog w) A (execs body env) (SEnd h₀ env.locals (own ++ news) D l t (stStep l st (p, x)) s₁) (fun _ _ => False) s₁)
    (hR : ∀ h' tk m' vs n u1 u2, Fr h₀ env.locals h' m' → News h₀ env.locals h' ((D, W.listOf vs.toArray n) :: news) → StrsAre vs ((all.foldl (stStep l) (0, none, [])).2.2.map S) → m' (Str.ofString "addr") = some (.str (S l) t) →
      m' (Str.ofString "start") = some (.int (((all.foldl (stStep l) (0, none, [])).1 : Nat) : Int) u1) → m' (Str.ofString "open_pos") = some (opV (all.foldl (stStep l) (0, none, [])).2.1 u2) → m' (Str.ofString "result") = some (.ref D) →
      R (.ok .next) { s with heap := h', toks := tk, gens := gens₀.push .finished }) :
    codeAny (model prog w) A (.forLoop (.Tuple [.Name (Str.ofString "pos") pk, .Name (Str.ofString "ch") pv] x1 pt) (.ref a) body [] env) R s := by
  have hLa : a ≠ env.locals := fun q => Nat.not_lt.mpr haN (q ▸ hLN)
  have old : ∀ b o, h₀.get? b = some o → LT.lt (α := Nat) b N₀ := fun b o e => Nat.lt_trans (Nat.lt_of_lt_of_le (Heap.lt_size e) F.above) hLN
  have young : ∀ b, LE.le (α := Nat) N₀ b → h₀.get? b = none := fun b hb => by
    cases e : h₀.get? b with
    | none => rfl
    | some o => exact absurd (old b o e) (Nat.not_lt.mpr hb)
  have I0 : SInv prog w A h₀ env.locals N₀ a g nm qn D l t news all gens₀ s (all.length + 1) s := by
    have z := SInv.mk (prog := prog) (w := w) (A := A) (h₀ := h₀) (L := env.locals) (N₀ := N₀) (g := g) (nm := nm) (qn := qn) (D := D) (l := l) (t := t) (news := news) (all := all) (gens₀ := gens₀) (s := s) s.heap s.toks gs₀ m vs₀ n₀ u0 u0 0 hoa F N hvs m1 m2 m3 m4 (by rw [← hgens]; exact hgo) (Nat.zero_le _)
    rw [← hgens] at z
    exact z
  refine codeAny_forLoop_any (SInv prog w A h₀ env.locals N₀ a g nm qn D l t news all gens₀ s) ?_ (all.length + 1) I0
  intro k s' hk
  cases hk with
  | mk h' tk gs m' vs n u1 u2 j hoa' F' N' hvs' q1 q2 q3 q4 hgo' hj =>
  have hgs : (gens₀.push gs)[g]? = some gs := by subst hg; simp
  have hset : ∀ x y : GenState, (gens₀.push x).setIfInBounds g y = gens₀.push y := fun x y => by subst hg; exact push_set _ _ _
  -- what holds after the generator has run on
  have after : ∀ h₁ : Heap, (∀ b o, (low N₀ h').get? b = some o → h₁.get? b = some o) → Fr h₀ env.locals h₁ m' ∧ News h₀ env.locals h₁ ((D, W.listOf vs.toArray n) :: news) := fun h₁ hk => by
    have up : ∀ b o, LT.lt (α := Nat) b N₀ → h'.get? b = some o → h₁.get? b = some o := fun b o hb e => hk b o (low_some.mpr ⟨hb, e⟩)
    refine ⟨⟨F'.ns.at' fun o e => up _ o hLN e, fun b o e => up b o (old b o e) (F'.keep b o e), F'.above⟩, fun p hp => ⟨up _ _ ?_ (N' p hp).1, (N' p hp).2⟩⟩
    rcases List.mem_cons.mp hp with e | hp
    · rw [e]; exact hDN
    · exact hnN p hp
  refine wpAny_pyNext_gen (P := fun n s₀ s₁ => n = 0 ∧ Since N₀ a (genObj g nm qn) s₀ s₁) hh (hlim.keeps F'.keep) hroom ⟨_, nm, qn, hoa', rfl, rfl, rfl⟩ hgs hgo' (fun v s₁ gs' hv => ?_) (fun s₁ hp1 h'' hk'' => ?_)
  · refine hide fun G9 k9 => ?_
    obtain ⟨⟨T, t1, t2, p, x, hall, ev, hT, hTn⟩, ⟨h₁, tk₁, es1, hk₁, ha₁⟩, fp, hfp, hkap⟩ := hv
    subst ev es1
    refine k9 ?_
    clear k9
    by_cases hj0 : all.length - j = 0
    · rw [hj0] at hkap
      exact (hkap _ fun _ _ _ e => e).elim
    obtain ⟨mm, hmm⟩ : ∃ mm, all.length - j = mm + 1 := ⟨all.length - j - 1, by omega⟩
    rw [hmm] at hkap hall
    have hidx : all.length - 1 - (mm + 1 - 1) = j := by omega
    rw [hidx] at hall
    replace hk₁ : ∀ b o, (low N₀ h').get? b = some o → h₁.get? b = some o := hk₁
    replace hTn : (low N₀ h').get? T = none := hTn
    replace hT : h₁.get? T = some (tup [.int ((p : Nat) : Int) t1, .str (S x) t2]) := hT
    obtain ⟨F₁, N₁⟩ := after h₁ hk₁
    have hgo₁ : wpAny (model prog w) A (letOwnedTupleGo (.Tuple [.Name (Str.ofString "pos") pk, .Name (Str.ofString "ch") pv] x1 pt) (.ref a) (.ref T)) (fun _ s₁' =>
          wpAny (model prog w) A (assign (.Tuple [.Name (Str.ofString "pos") pk, .Name (Str.ofString "ch") pv] x1 pt) env (.ref T)) (fun _ s₂ => wpAny (model prog w) A (execs body env) (fun f s₃ => match f with
            | .next | .cont => ∃ m, m < all.length + 1 - j ∧ SInv prog w A h₀ env.locals N₀ a g nm qn D l t news all gens₀ s m s₃
            | .brk => R (.ok .next) s₃
            | .ret v => R (.ok (.ret v)) s₃) (notedBy (model prog w) A env fun e s' => R (.error e) s') s₂) (notedBy (model prog w) A env fun e s' => R (.error e) s') s₁') (notedBy (model prog w) A env fun e s' => R (.error e) s') { s with heap := h₁, toks := tk₁, gens := gens₀.push gs' } := by
      unfold letOwnedTupleGo
      refine wpAny_bind (wpAny_load (s := { s with heap := h₁, toks := tk₁, gens := gens₀.push gs' }) ha₁ ?_)
      dsimp only
      rw [if_neg (by intro hx; rw [Bool.and_eq_true] at hx; exact absurd hx.1 (by decide +kernel))]
      refine wpAny_pure ?_
      have ht₂ : h₁.IsTuple T #[.int ((p : Nat) : Int) t1, .str (S x) t2] := ⟨_, hT, rfl, _, rfl⟩
      refine wpAny_assign_Tuple hh ht₂ rfl rfl fun h₃ hx₃ => ?_
      replace hx₃ : Heap.ExtBut h₁.objs.size h₁ h₃ := hx₃
      have up₃ : ∀ b o, h₁.get? b = some o → h₃.get? b = some o := fun b o z => hx₃ b o (Nat.ne_of_lt (Heap.lt_size z)) z
      have F₃ : Fr h₀ env.locals h₃ m' := ⟨F₁.ns.at' fun o e => up₃ _ o e, fun b o e => up₃ b o (F₁.keep b o e), F₁.above⟩
      have N₃ : News h₀ env.locals h₃ ((D, W.listOf vs.toArray n) :: news) := fun q hq => ⟨up₃ _ _ (N₁ q hq).1, (N₁ q hq).2⟩
      show wpAny _ A (do holding [.str (S x) t2] (assign (.Name (Str.ofString "pos") pk) env (.int ((p : Nat) : Int) t1)); do holding [] (assign (.Name (Str.ofString "ch") pv) env (.str (S x) t2)); pure ()) _ _ _
      refine wpAny_bind (wpAny_holding (wpAny_assign_Name (wpAny_storeName_local hxi F₃.ns (fun h₄ hn₄ hs₄ => ?_) hp)))
      replace hs₄ : Heap.SameBut env.locals h₃ h₄ := hs₄
      have F₄ := F₃.set hn₄ hs₄
      refine wpAny_bind (wpAny_holding (wpAny_assign_Name (wpAny_storeName_local hxc F₄.ns (fun h₅ hn₅ hs₅ => wpAny_pure ?_) hp)))
      replace hs₅ : Heap.SameBut env.locals h₄ h₅ := hs₅
      have F₅ := F₄.set hn₅ hs₅
      have N₅ : News h₀ env.locals h₅ ((D, W.listOf vs.toArray n) :: news) := (N₃.set hs₄).set hs₅
      have up₅ : ∀ b o, b ≠ env.locals → h₁.get? b = some o → h₅.get? b = some o := fun b o hb e => hs₅.extBut b o hb (hs₄.extBut b o hb (up₃ b o e))
      have a5 := up₅ a _ hLa ha₁
      have Lfp : env.locals ∉ fp := fun hm => Nat.not_lt.mpr (hfp _ hm) hLN
      have F₅' := F₅
      rw [show m' = (fun y => if y = Str.ofString "addr" then some (.str (S l) t) else if y = Str.ofString "start" then some (.int ((((all.take j).foldl (stStep l) (0, none, [])).1 : Nat) : Int) u1) else if y = Str.ofString "open_pos" then some (opV ((all.take j).foldl (stStep l) (0, none, [])).2.1 u2) else
        if y = Str.ofString "result" then some (.ref D) else m' y) from funext fun y => by rw [upd_pt q4, upd_pt q3, upd_pt q2, upd_pt q1]] at F₅'
      have ownN : News h₀ env.locals h₅ (((a, genObj g nm qn) :: ownOf h₀ fp h₅) ++ news) := fun q hq => by
        rcases List.mem_append.mp hq with hq | hq
        · rcases List.mem_cons.mp hq with e | hq
          · rw [e]; exact ⟨a5, hLa, young a haN⟩
          · exact news_ownOf Lfp q hq
        · exact N₅ q (List.mem_cons_of_mem _ hq)
      refine wpAny_mono (step j p x _ t1 t2 u1 u2 vs n m' _ ((a, genObj g nm qn) :: ownOf h₀ fp h₅) hall rfl hvs' F₅' (fun q hq => ?_) (fun q hq => ?_)) (fun f s₃ hf => ?_) fun _ _ z => z.elim
      · rcases List.mem_cons.mp hq with e | hq
        · rw [e]; exact N₅ _ (List.mem_cons_self ..)
        · exact ownN q hq
      · rcases List.mem_append.mp hq with hq | hq
        · rcases List.mem_cons.mp hq with e | hq
          · rw [e]; intro z; replace z : a = D := z; exact Nat.not_lt.mpr haN (z ▸ hDN)
          · intro z
            have : q.1 ∈ fp := by
              obtain ⟨b, hb, e⟩ := List.mem_filterMap.mp hq
              cases hn : h₀.get? b with
              | some _ => simp [hn] at e
              | none =>
                cases ho : h₅.get? b with
                | none => simp [hn, ho] at e
                | some o =>
                  have e2 : q = (b, o) := by simpa [hn, ho] using e.symm
                  rw [e2]; exact hb
            exact Nat.not_lt.mpr (hfp _ this) (z ▸ hDN)
        · exact hnD q hq
      · cases hf with
        | mk h₆ tk₆ vs₆ n₆ m₆ v1 v2 F₆ N₆ hvs₆ e1 e2 e3 e4 =>
        have htake : (all.take (j + 1)).foldl (stStep l) (0, none, []) = stStep l ((all.take j).foldl (stStep l) (0, none, [])) (p, x) := by
          rw [List.take_add_one, hall, List.foldl_append]; rfl
        refine ⟨all.length + 1 - (j + 1), by omega, .mk h₆ tk₆ gs' m₆ vs₆ n₆ v1 v2 (j + 1) (N₆ _ (List.mem_cons_of_mem _ (List.mem_append_left _ (List.mem_cons_self ..)))).1 F₆ (fun q hq => N₆ q ?_) (by rw [htake]; exact hvs₆) e1 (by rw [htake]; exact e2) (by rw [htake]; exact e3) e4 ?_ (by omega)⟩
        · rcases List.mem_cons.mp hq with e | hq
          · exact e ▸ List.mem_cons_self ..
          · exact List.mem_cons_of_mem _ (List.mem_append_right _ hq)
        · have hk9 := hkap { s with heap := h₆, toks := tk₆, gens := (gens₀.push gs').setIfInBounds g .running } (fun b hb o e => by
            have e' : h₁.get? b = some o := e
            have hbL : b ≠ env.locals := fun q => Lfp (q ▸ hb)
            exact (N₆ _ (List.mem_cons_of_mem _ (List.mem_append_left _ (List.mem_cons_of_mem _ (mem_ownOf hb (young b (hfp b hb)) (up₅ b o hbL e')))))).1)
          rw [show all.length - (j + 1) = mm by omega]
          exact hk9
    have es : ({ { s with heap := h', toks := tk, gens := gens₀.push gs }.setGen g .running with heap := h₁, toks := tk₁ } : Shared).setGen g gs' = { s with heap := h₁, toks := tk₁, gens := gens₀.push gs' } := by
      show ({ s with heap := h₁, toks := tk₁, gens := ((gens₀.push gs).setIfInBounds g .running).setIfInBounds g gs' } : Shared) = _
      rw [hset, hset]
    rw [es]
    exact hgo₁
  · obtain ⟨h0, h₁, tk₁, rfl, hk₁, ha₁⟩ := hp1
    have hjl : j = all.length := by omega
    subst hjl
    rw [List.take_length] at hvs' q2 q3
    replace hk₁ : ∀ b o, (low N₀ h').get? b = some o → h₁.get? b = some o := hk₁
    replace hk'' : ∀ b o, h₁.get? b = some o → h''.get? b = some o := hk''
    obtain ⟨F₁, N₁⟩ := after h'' fun b o e => hk'' b o (hk₁ b o e)
    refine wpAny_execs_nil ?_
    have es : ({ ({ { s with heap := h', toks := tk, gens := gens₀.push gs }.setGen g .running with heap := h₁, toks := tk₁ } : Shared).setGen g .finished with heap := h'' } : Shared) = { s with heap := h'', toks := tk₁, gens := gens₀.push .finished } := by
      show ({ s with heap := h'', toks := tk₁, gens := ((gens₀.push gs).setIfInBounds g .running).setIfInBounds g .finished } : Shared) = _
      rw [hset, hset]
    rw [es]
    exact hR h'' tk₁ m' vs n u1 u2 F₁ N₁ hvs' q1 q2 q3 q4
end
end Mine
end

section
open PySem PySem.W PyProof.Rows PySem.Calls PySem.Spec
set_option Elab.async false
set_option maxRecDepth 100000
set_option maxHeartbeats 4000000
namespace Mine
theorem alph_iter {l : List Nat} (ha : Alph l) : strIterType (S l) = "str_ascii_iterator" := by
  have h1 : (S l).cps.all (· < 128) = true := by
    rw [Array.all_eq_true_iff_forall_mem]
    intro c hc
    rcases ha c (by simpa [S] using hc) with e | e | e <;> simp <;> omega
  unfold strIterType; rw [if_pos h1]
theorem fr_see3 {h₀ h : Heap} {L : Addr} {m : Str → Option Value} {x1 x2 x3 : Str} {v1 v2 v3 : Value} (F : Fr h₀ L h m) (e1 : m x1 = some v1) (e2 : m x2 = some v2) (e3 : m x3 = some v3) :
    Fr h₀ L h (fun y => if y = x1 then some v1 else if y = x2 then some v2 else if y = x3 then some v3 else m y) := by
  rw [show (fun y => if y = x1 then some v1 else if y = x2 then some v2 else if y = x3 then some v3 else m y) = m from funext fun y => by rw [upd_pt e3, upd_pt e2, upd_pt e1]]
  exact F
mutual
theorem out_len : ∀ (l : List Nat) (e : Bool), (outF e l).length ≤ l.length
  | [], true => Nat.le_refl _
  | [], false => Nat.le_refl _
  | c :: r, true => by rw [outF, List.length_cons, List.length_cons]; have := out_len r false; omega
  | c :: r, false => by
    rw [outF]
    split
    · rw [List.length_cons, List.length_cons]; have := out_len r true; omega
    · split
      · have := in_len r false [34]; simp only [List.length_cons, List.length_nil] at this ⊢; omega
      · rw [List.length_cons, List.length_cons]; have := out_len r false; omega
theorem in_len : ∀ (l : List Nat) (e : Bool) (p : List Nat), (inF e p l).length ≤ p.length + l.length
  | [], true, p => Nat.le_refl _
  | [], false, p => Nat.le_refl _
  | c :: r, true, p => by rw [inF, List.length_cons]; have := in_len r false (p ++ [c]); simp only [List.length_append, List.length_cons, List.length_nil] at this; omega
  | c :: r, false, p => by
    rw [inF]
    split
    · rw [List.length_cons]; have := in_len r true (p ++ [92]); simp only [List.length_append, List.length_cons, List.length_nil] at this; omega
    · split
      · rw [List.length_cons]; have := out_len r false; omega
      · rw [List.length_cons]; have := in_len r false (p ++ [c]); simp only [List.length_append, List.length_cons, List.length_nil] at this; omega
end
theorem lens_flat (ls : List (List Nat)) : ((ls.map S).map (·.length)).sum = ls.flatten.length := by
  rw [List.length_flatten, List.map_map]; rfl
theorem bs_str : Str.ofString "\\" = S [92] := by decide +kernel
theorem ch_bs (ch : Nat) : (S [ch] == Str.ofString "\\") = (ch == 92) := by
  rw [bs_str]
  by_cases h : ch = 92
  · subst h; decide +kernel
  · have : (ch == 92) = false := by simpa using h
    rw [this]
    exact beq_false_of_ne fun e => h (by simpa using S_inj e)
theorem keepN {N₀ en it a : Nat} {oe oi oa : Obj} (h1 : N₀ ≤ en) (h2 : N₀ ≤ it) (h3 : N₀ ≤ a) : ∀ q ∈ ([(en, oe), (it, oi), (a, oa)] : List (Addr × Obj)), LE.le (α := Nat) N₀ q.1 := fun q hq => by
  rcases List.mem_cons.mp hq with e | hq
  · rw [e]; exact h1
  rcases List.mem_cons.mp hq with e | hq
  · rw [e]; exact h2
  · rw [List.mem_singleton.mp hq]; exact h3
theorem sEnd_of {h₀ h : Heap} {L D : Addr} {rest newsX : List (Addr × Obj)} {l : List Nat} {t u1 u2 : Tok} {st : StSt} {s₁ : Shared} {m₂ : Str → Option Value} {k : Int} {ov : Value} {vs : List Value} {rs : List Str} {n tk : Nat}
    (F : Fr h₀ L h m₂) (N : News h₀ L h newsX) (m1 : m₂ (Str.ofString "addr") = some (.str (S l) t)) (m2 : m₂ (Str.ofString "start") = some (.int k u1)) (m3 : m₂ (Str.ofString "open_pos") = some ov) (m4 : m₂ (Str.ofString "result") = some (.ref D))
    (hvs : StrsAre vs rs) (hs : ∀ q ∈ (D, W.listOf vs.toArray n) :: rest, q ∈ newsX) (e : k = ((st.1 : Nat) : Int) ∧ ov = opV st.2.1 u2 ∧ rs = st.2.2.map S) : SEnd h₀ L rest D l t st s₁ .next { s₁ with heap := h, toks := tk } := by
  obtain ⟨rfl, rfl, rfl⟩ := e
  exact .mk h tk vs n m₂ u1 u2 F (fun q hq => N q (hs q hq)) hvs m1 m2 m3 m4
theorem st_same {l : List Nat} {st : StSt} {p : Nat} {x : List Nat} (h : (S x == Str.ofString "\"") = false) : stStep l st (p, x) = st := by
  unfold stStep
  rw [if_neg]
  intro e
  dsimp only at e
  rw [e] at h
  revert h; decide +kernel
theorem st_mark {x : List Nat} (h : (S x == Str.ofString "\"") = true) : x = [34] := by
  rw [show Str.ofString "\"" = S [34] by decide +kernel] at h
  exact S_inj (eq_of_beq h)
section
variable {prog : Program} {w : World} {A : Around} {s : Shared} {E : Value → Shared → Prop} {K : Frag}
/-- a generator function is called: the generator's object -/
theorem gen_call {Q : Value → Shared → Prop} {name qual : Str} {params : Arguments} {body : List Stmt} {scope : Scope} {dV kV doc pm cdv ct oc : Value} {an od : Option Addr} {osl : Array (Option Value)} {f : Addr} {args : List Value} {binds : List (Str × Value)}
    (hroom : A.depth < recursionLimit) (X : K.In s.heap) (hlim : s.heap.NoLimit)
    (ho : K.lookup f = some ⟨oc, od, .func (fnOf name qual params body scope dV kV doc pm an cdv ct), osl⟩) (hcd : codeIn K cdv qual = true)
    (hbind : BindsTo s (fnOf name qual params body scope dV kV doc pm an cdv ct) ⟨args, []⟩ binds) (hloc : ∀ y ∈ binds, scope.names.lookup y.1 = some .local)
    (hco : scope.isCoroutine = false) (hgen : scope.isGenerator = true) (hk : scope.kind = .function) (hcell : ∀ x ∈ scope.names, x.2 ≠ .cell)
    (h : ∀ (h₂ : Heap) (tk : Nat) (nm qn : Value) (a : Addr), h₂.Ns s.heap.objs.size (fun x => binds.reverse.lookup x) → (∀ b o, s.heap.get? b = some o → h₂.get? b = some o) → LT.lt (α := Nat) s.heap.objs.size a →
      h₂.get? a = some (genObj s.gens.size nm qn) →
      Q (.ref a) { s with heap := h₂, toks := tk, gens := s.gens.push (.fresh (.func body (envOf qual scope s.heap.objs.size f cdv))) }) :
    wpAny (model prog w) A (call (.ref f) args) Q E s := by
  refine wpAny_call (codeAny_call_generator (fd := fnOf name qual params body scope dV kV doc pm an cdv ct) (body := body) hroom (X _ _ ho) rfl hco hgen rfl (codeRec_of X hcd) (hbind _ _ _ _ ?_))
  refine wpAny_newFunctionEnv hcell hloc (fun h₀ hns₀ hsb₀ => ⟨hlim.fresh _ hsb₀, ?_⟩) hk
  have hz : h₀.objs.size = s.heap.objs.size + 1 := hsb₀.1.trans (Heap.size_push ..)
  refine h _ _ (.str name (s.toks + binds.length)) (.str qual (s.toks + binds.length + 1)) h₀.objs.size (hns₀.at' fun o e => Heap.get?_push_of_some _ e) (fun b o e => Heap.get?_push_of_some _ (hsb₀.extBut b o (Nat.ne_of_lt (Heap.lt_size e)) (Heap.get?_push_of_some _ e))) (by rw [hz]; exact Nat.lt_succ_self _) ?_
  exact Heap.get?_push_size _ rfl
theorem my_add92 {b : List Nat} {t u : Tok} {Q : Value → Shared → Prop} (hn : b.length ≤ 999) (h : ∀ t' tk, Q (.str (S (92 :: b)) t') { s with toks := tk }) :
    wpAny (model prog w) A (binaryOp .Add (.str (Str.ofString "\\") t) (.str (S b) u)) Q E s := by
  rw [show Str.ofString "\\" = S [92] by decide +kernel]
  exact my_add (a := [92]) (b := b) (by show 1 + b.length ≤ 1000; omega) h
theorem my_append {Q : Value → Shared → Prop} {h₀ : Heap} {L D : Addr} {m : Str → Option Value} {rest : List (Addr × Obj)} {vs : List Value} {n : Nat} {x : Value} (F : Fr h₀ L s.heap m) (N : News h₀ L s.heap ((D, W.listOf vs.toArray n) :: rest)) (hne : ∀ p ∈ rest, p.1 ≠ D) (hz : vs.length ≤ 700)
    (h : ∀ h', Fr h₀ L h' m → News h₀ L h' ((D, W.listOf (vs ++ [x]).toArray (n + 1)) :: rest) → Q .none { s with heap := h' }) :
    wpAny (model prog w) A (call (.builtin "list.append") [.ref D, x]) Q E s :=
  append_K F N (Upd.head hne) (fun h' F' N' => h h' F' (by rw [show (vs ++ [x]).toArray = vs.toArray.push x by simp]; exact N')) (by rw [List.size_toArray]; exact Nat.le_trans hz (by decide))
theorem slice_eq {l : List Nat} {a o : Nat} (h1 : a ≤ o) (h2 : o ≤ l.length) : Txt.slice (S l) (some (a : Int)) (some (o : Int)) = S ((l.drop a).take (o - a)) := by
  show StrLaws.sliceText _ _ _ = _
  rw [StrLaws.sliceText_plain ⟨by omega, by omega, by rw [S_list]; omega⟩, S_list]
  rw [show ((o : Int) - (a : Int)).toNat = o - a by omega, show ((a : Int)).toNat = a by omega]
  first | rfl | (show S _ = S _; congr 1; done) | simp
theorem st_cut {l : List Nat} {a o p : Nat} {res : List (List Nat)} (h : ((a : Nat) : Int) ≠ ((o : Nat) : Int)) (h1 : a ≤ o) (h2 : o ≤ l.length) {vs : List Value} {t : Tok} (hvs : StrsAre vs (res.map S)) :
    StrsAre (vs ++ [.str (Txt.slice (S l) (some (a : Int)) (some (o : Int))) t]) ((stStep l (a, some o, res) (p, [34])).2.2.map S) := by
  have e : stStep l (a, some o, res) (p, [34]) = (p + 1, none, res ++ [(l.drop a).take (o - a)]) := by
    unfold stStep
    rw [if_pos rfl]
    dsimp only
    rw [if_neg (fun q => h (by rw [q]))]
  rw [e, slice_eq h1 h2]
  show StrsAre _ ((res ++ [(l.drop a).take (o - a)]).map S)
  rw [List.map_append]
  exact hvs.append' (.cons _ _ .nil)
theorem st_nocut {l : List Nat} {a o p : Nat} {res : List (List Nat)} (h : ((a : Nat) : Int) = ((o : Nat) : Int)) : stStep l (a, some o, res) (p, [34]) = (p + 1, none, res) := by
  unfold stStep
  rw [if_pos rfl]
  dsimp only
  rw [if_pos (by omega)]
theorem my_join {Q : Value → Shared → Prop} {h₀ : Heap} {L D : Addr} {nw : List (Addr × Obj)} {vs : List Value} {n : Nat} {t : Tok} {ls : List (List Nat)} {out : List Nat} (N : News h₀ L s.heap nw) (hm : (D, W.listOf vs.toArray n) ∈ nw) (hvs : StrsAre vs (ls.map S)) (hl : ls.flatten = out) (hb : out.length ≤ 1000)
    (h : ∀ t' k, Q (.str (S out) t') { s with toks := k }) : wpAny (model prog w) A (call (.builtin "str.join") [.str (Str.ofString "") t, .ref D]) Q E s := by
  have e0 : (Str.ofString "").length = 0 := by decide +kernel
  subst hl
  refine PyProof.Rows.join_list (isList_of N hm) (by simpa using hvs) (by rw [e0, lens_flat]; omega) fun t' k => ?_
  have e : Txt.join (Str.ofString "") (ls.map S) = S ls.flatten := by
    show Builtin.Str.glued _ _ = _
    rw [StrLaws.glued_eq_join, join_flat]
  rw [e]
  exact h t' k
theorem slice_from {l : List Nat} {a : Nat} (h : a ≤ l.length) : Txt.slice (S l) (some (a : Int)) none = S (l.drop a) := by
  show StrLaws.sliceText _ _ _ = _
  rw [StrLaws.sliceText_from ⟨by omega, by rw [S_list]; omega⟩, S_list]
  show S ((l.drop ((a : Int)).toNat).take (((l.length : Nat) : Int) - ((a : Nat) : Int)).toNat) = _
  rw [show ((a : Int)).toNat = a by omega, List.take_of_length_le (by rw [List.length_drop]; omega)]
theorem st_tail {l : List Nat} {a : Nat} {op : Option Nat} {res : List (List Nat)} (h : a < l.length) {vs : List Value} {t : Tok} (hvs : StrsAre vs (res.map S)) :
    StrsAre (vs ++ [.str (Txt.slice (S l) (some (a : Int)) none) t]) ((stFin l (a, op, res)).map S) := by
  have e : stFin l (a, op, res) = res ++ [l.drop a] := by unfold stFin; rw [if_pos h]
  rw [e, slice_from (by omega), List.map_append]
  exact hvs.append' (.cons _ _ .nil)
theorem st_notail {l : List Nat} {a : Nat} {op : Option Nat} {res : List (List Nat)} (h : ¬ a < l.length) {vs : List Value} (hvs : StrsAre vs (res.map S)) : StrsAre vs ((stFin l (a, op, res)).map S) := by
  unfold stFin; rw [if_neg h]; exact hvs
theorem my_enum {Q : Value → Shared → Prop} {g : Heap} {L : Addr} {m : Str → Option Value} {nw : List (Addr × Obj)} {l : List Nat} {t : Tok} (F : Fr g L s.heap m) (N : News g L s.heap nw) (ha : Alph l)
    (h : ∀ h' en it, IsEnum h' en it 0 .none → h'.IsStrIter it "str_ascii_iterator" (S l) t 0 → en ≠ it → LT.lt (α := Nat) L en → LT.lt (α := Nat) L it → (∀ q ∈ nw, q.1 ≠ en ∧ q.1 ≠ it) → Fr g L h' m → News g L h' nw → Q (.ref en) { s with heap := h' }) :
    wpAny (model prog w) A (call (.type "enumerate") [.str (S l) t]) Q E s :=
  call_enumerate_str fun h' hE hI _ hk => h h' _ _ hE (alph_iter ha ▸ hI) (Nat.succ_ne_self _) (Nat.lt_succ_of_lt F.ns.lt) F.ns.lt
    (fun q hq => ⟨Nat.ne_of_lt (Nat.lt_succ_of_lt (Heap.lt_size (N q hq).1)), Nat.ne_of_lt (Heap.lt_size (N q hq).1)⟩)
    ⟨F.ns.at' fun o e => hk _ o e, fun b o e => hk b o (F.keep b o e), F.above⟩ fun q hq => ⟨hk _ _ (N q hq).1, (N q hq).2⟩
end
end Mine
end

section
open PySem PySem.W PyProof.Rows PySem.Calls PySem.Spec
set_option Elab.async false
set_option maxRecDepth 100000
set_option maxHeartbeats 4000000
namespace Mine
theorem strs_of_get {vs : List Value} {l : List Nat} (hl : vs.length = l.length) (h : ∀ (j : Nat) v, vs[j]? = some v → ∃ c t, l[j]? = some c ∧ v = .str (S [c]) t) : StrsAre vs (l.map fun c => S [c]) := by
  induction vs generalizing l with
  | nil => cases l with
    | nil => exact .nil
    | cons c r => simp at hl
  | cons v r ih => cases l with
    | nil => simp at hl
    | cons c r' =>
      obtain ⟨c0, t, h1, rfl⟩ := h 0 v rfl
      have : c0 = c := by simpa using h1.symm
      subst this
      exact .cons _ _ (ih (by simpa using hl) fun j v hv => h (j + 1) v (by simpa using hv))
section
variable {prog : Program} {w : World} {A : Around} {s : Shared} {E : Value → Shared → Prop} {Q : Value → Shared → Prop} {h₀ : Heap} {L : Addr} {m : Str → Option Value} {news : List (Addr × Obj)} {l : List Nat} {t : Tok}
theorem my_list (hh : A.handled = none) (F : Fr h₀ L s.heap m) (N : News h₀ L s.heap news) (hz : (S l).length ≤ 1000)
    (h : ∀ h' tk D n (vs : List Value), Fr h₀ L h' m → News h₀ L h' ((D, W.listOf vs.toArray n) :: news) → (∀ p ∈ news, p.1 < D) → StrsAre vs (l.map fun c => S [c]) → Q (.ref D) { s with heap := h', toks := tk }) :
    wpAny (model prog w) A (call (.type "list") [.str (S l) t]) Q E s := by
  refine call_list_str hh (S l) t (fun h' tk acc' c' hk hS hacc => ?_) (hn := Nat.le_trans hz (by decide))
  have fresh : h₀.get? s.heap.objs.size = none := by
    cases e : h₀.get? s.heap.objs.size with
    | none => rfl
    | some o => exact absurd (Heap.lt_size (F.keep _ _ e)) (Nat.lt_irrefl _)
  have hF : Fr h₀ L h' m := ⟨F.ns.at' fun o e => hk _ o e, fun b o e => hk b o (F.keep b o e), F.above⟩
  refine h h' tk _ c' acc'.toList hF (fun q hq => ?_) (fun q hq => Heap.lt_size (N q hq).1) ?_
  · rcases List.mem_cons.mp hq with e | hq
    · rw [e]
      refine ⟨by simpa using hS, fun q => ?_, fresh⟩
      have := F.ns.lt
      rw [← q] at this
      exact Nat.lt_irrefl _ this
    · exact ⟨hk _ _ (N q hq).1, (N q hq).2⟩
  · have hsz : acc'.toList.length = l.length := by
      have := hacc.1
      simpa [S] using this
    refine strs_of_get hsz fun j v hv => ?_
    obtain ⟨hj, e⟩ := List.getElem?_eq_some_iff.mp hv
    have z := hacc.2 j v (by simpa using hv)
    obtain ⟨c, u, hc, rfl⟩ := z
    exact ⟨c, u, by simpa [S] using hc, rfl⟩
theorem my_rev {vs : List Value} {n : Nat} {D : Addr} {vk : Value} {ops : List Value} {value slice : Expr} {cs : List Str} (F : Fr h₀ L s.heap m) (N : News h₀ L s.heap news) (hm : (D, W.listOf vs.toArray n) ∈ news) (hv : StrsAre vs cs) (hz : cs.length ≤ 1000) (pk : IsPart vk (some (-1)))
    (h : ∀ D h', Fr h₀ L h' m → News h₀ L h' ((D, W.listOf vs.reverse.toArray 0) :: news) → (∀ p ∈ news, p.1 < D) → Q (.ref D) { s with heap := h' })
    (hs : subscripted slice false (.ref D) (.ref s.heap.objs.size) = operate ops (getItem (.ref D) (.ref s.heap.objs.size))) (ht : ∀ r, letTemporaryGo value (.ref D) r = pure ()) :
    wpAny (model prog w) A (subscriptTail value slice (.ref D) (.ref s.heap.objs.size)) Q E { s with heap := s.heap.push { cls := .type "slice", data := .fields #[.none, .none, vk] } } :=
  krv_lit (its := vs.toArray) (zs := vs.reverse) F N (isList_of N hm) pk rfl h hs ht (by rw [List.size_toArray, hv.length]; exact Nat.le_trans hz (by decide))
theorem upd3 {c : Addr} {o : Obj} {x y : Addr × Obj} {rest : List (Addr × Obj)} (h1 : x.1 ≠ c) (h2 : y.1 ≠ c) (h3 : ∀ p ∈ rest, p.1 ≠ c) : UpdF c o (x :: y :: (c, o) :: rest) (fun o' => x :: y :: (c, o') :: rest) := .tail h1 (.tail h2 (.head h3))
theorem upd_cell {L D1 D2 : Nat} {o x z tb : Obj} {news : List (Addr × Obj)} (a : L + 1 < D2) (b : L + 1 < D1) (c : 123 < L) (al : AllLt (L : Addr) news) :
    UpdF (L + 1 : Nat) o (((D2 : Addr), x) :: ((D1 : Addr), z) :: (((L + 1 : Nat) : Addr), o) :: ((123 : Addr), tb) :: news) (fun o' => ((D2 : Addr), x) :: ((D1 : Addr), z) :: (((L + 1 : Nat) : Addr), o') :: ((123 : Addr), tb) :: news) :=
  upd3 (x := ((D2 : Addr), x)) (y := ((D1 : Addr), z)) (Nat.ne_of_gt a) (Nat.ne_of_gt b) (fun p hp => (List.mem_cons.mp hp).elim (fun e => by rw [e]; exact Nat.ne_of_lt (Nat.lt_succ_of_lt c)) (fun z => Nat.ne_of_lt (Nat.lt_succ_of_lt (allLt_mem al p z))))
end
end Mine
end

section
open PySem PySem.W PyProof.Rows PySem.Calls PySem.Spec
set_option Elab.async false
set_option maxRecDepth 100000
set_option maxHeartbeats 4000000
namespace Mine
/-! iter(a bound method, ''). -/
theorem slot_ci_iter : Slot "callable_iterator" "__iter__" "callable_iterator.__iter__" :=
  .of (owner := "callable_iterator") (n := "__iter__") (by rw [typeLookup_type, builtinLookup_eq_fast]; kernel_rfl) (by decide +kernel) (by decide +kernel) (by decide +kernel)
    (by first | exact .inl (by decide +kernel) | exact .inr (by decide +kernel)) (by rw [isSubtype_type]; kernel_rfl)
theorem slot_ci_next : Slot "callable_iterator" "__next__" "callable_iterator.__next__" :=
  .of (owner := "callable_iterator") (n := "__next__") (by rw [typeLookup_type, builtinLookup_eq_fast]; kernel_rfl) (by decide +kernel) (by decide +kernel) (by decide +kernel)
    (by first | exact .inl (by decide +kernel) | exact .inr (by decide +kernel)) (by rw [isSubtype_type]; kernel_rfl)
theorem owner_ci : Manifest.owners.lookup (String.ofList ['r', 'o', 't', 'a', 'r', 'e', 't', 'i', '_', 'e', 'l', 'b', 'a', 'l', 'l', 'a', 'c'].reverse) = some Manifest.sig_callable_iterator := by kernel_rfl
theorem args_ci_iter (a : Value) : argsOk "callable_iterator.__iter__" ⟨[a], []⟩ := by
  unfold argsOk; rw [signature?_of (id := "callable_iterator.__iter__") (n := ['_', '_', 'r', 'e', 't', 'i', '_', '_']) (o := ['r', 'o', 't', 'a', 'r', 'e', 't', 'i', '_', 'e', 'l', 'b', 'a', 'l', 'l', 'a', 'c']) (by kernel_rfl) owner_ci]; kernel_rfl
theorem args_ci_next (a : Value) : argsOk "callable_iterator.__next__" ⟨[a], []⟩ := by
  unfold argsOk; rw [signature?_of (id := "callable_iterator.__next__") (n := ['_', '_', 't', 'x', 'e', 'n', '_', '_']) (o := ['r', 'o', 't', 'a', 'r', 'e', 't', 'i', '_', 'e', 'l', 'b', 'a', 'l', 'l', 'a', 'c']) (by kernel_rfl) owner_ci]; kernel_rfl
theorem entry_ci_next : entryFor table "callable_iterator.__next__" = some Builtin.«callable_iterator.__next__» := entryFor_of_tree (by kernel_rfl)
theorem entry_ci_iter : entryFor table "callable_iterator.__iter__" = some Builtin.«dict_keyiterator.__iter__» :=
  entryFor_alias (id' := "dict_keyiterator.__iter__") (by kernel_rfl) (by first | rfl | decide +kernel | (unfold String.splitOn; simp +decide [String.splitOnAux])) (by decide +kernel) (by kernel_rfl)
theorem slot_method_call : typeLookup (.type "method") "__call__" = pure (some (.builtin "method.__call__")) := by rw [typeLookup_type, builtinLookup_eq_fast]; kernel_rfl
theorem args_iter2 (a b : Value) : argsOk "iter" ⟨[a, b], []⟩ := by unfold argsOk; kernel_rfl
theorem wpAny_callBorrowed {M : Model} {A : Around} {s : Shared} {E : Value → Shared → Prop} {Q : Value → Shared → Prop} {f : Value} {pos : List Value} (h : wpAny M A (call f pos) Q E s) : wpAny M A (callBorrowed f pos) Q E s := fun G p hG => by
  have z := h G p hG
  rw [show call f pos = runValue (.call f ⟨pos, []⟩) from rfl, Sem.wp_runValue] at z
  refine wpCode_mono (R := _) (fun r s' hr => ?_) z
  cases r with
  | error e => exact hr
  | ok f => cases f <;> first | exact hr | exact hr.elim
noncomputable abbrev ciObj (q : Addr) (t : Tok) : Obj := { cls := .type "callable_iterator", data := .fields #[.ref q, .str (Str.ofString "") t, .bool false] }
section
variable {prog : Program} {w : World} {A : Around} {s : Shared} {E : Value → Shared → Prop} {Q : Value → Shared → Prop} {h₀ : Heap} {L I q : Addr} {m : Str → Option Value} {news : List (Addr × Obj)} {t : Tok}
theorem my_iter2 {f self : Value} (F : Fr h₀ L s.heap m) (N : News h₀ L s.heap news) (hq : (q, methodObj f self) ∈ news)
    (h : ∀ h' I, Fr h₀ L h' m → News h₀ L h' ((I, ciObj q t) :: news) → (∀ p ∈ news, p.1 < I) → Q (.ref I) { s with heap := h' }) :
    wpAny (model prog w) A (call (.builtin "iter") [.ref q, .str (Str.ofString "") t]) Q E s := by
  have hT : s.TypeIs (.ref q) "method" := ⟨_, (N _ hq).1, rfl⟩
  refine call_function_entry (by decide +kernel) (by decide +kernel) kdk_entry_iter (args_iter2 _ _) ?_
  unfold Builtin.«iter»
  refine wpAny_bind (m := someArgs "iter" 1 2 _) (wpAny_of_eq (a := [Value.ref q, .str (Str.ofString "") t]) (by first | rfl | kernel_rfl!) ?_)
  show wpAny _ _ (specialOf (.ref q) "__call__" >>= _) _ _ _
  refine wpAny_bind (wpAny_specialOf hT slot_method_call ?_)
  show wpAny _ _ (rule "iter.sentinel" >>= _) _ _ _
  refine wpAny_bind (wpAny_rule ?_)
  refine wpAny_bind (wpAny_newObj_type (wpAny_pure ⟨_, rfl, ?_⟩) (by size_fits))
  exact h _ _ (F.push _) (News.push F N _ rfl) fun p hp => Heap.lt_size (N p hp).1
theorem my_ci_iter (N : News h₀ L s.heap news) (hm : (I, ciObj q t) ∈ news) (h : Q (.ref I) s) : wpAny (model prog w) A (pyIter (.ref I)) Q E s := by
  have hT : s.TypeIs (.ref I) "callable_iterator" := ⟨_, (N _ hm).1, rfl⟩
  refine wpAny_pyIter_slot hT slot_ci_iter (wpAny_call_entry slot_ci_iter hT entry_ci_iter ?_ (args_ci_iter _))
  show wpAny _ _ (ret (.ref I)) _ _ s
  exact wpAny_pure ⟨_, rfl, "callable_iterator", _, hT, slot_ci_next.lookup, h⟩
theorem my_ci_next {Q : Option Value → Shared → Prop} {f : Addr} {of : Obj} {fd : FuncData} {self : Value} (N : News h₀ L s.heap news) (hm : (I, ciObj q t) ∈ news) (hq : (q, methodObj (.ref f) self) ∈ news) (hf : s.heap.get? f = some of) (hfd : of.data = .func fd)
    (h : wpAny (model prog w) A.in1 (call (.ref q) []) (fun r s₁ => ∃ x u, r = .str x u ∧ x ≠ S [] ∧ s₁.heap.get? I = some (ciObj q t) ∧ Q (some (.str x u)) s₁) (fun _ _ => False) s) :
    wpAny (model prog w) A (pyNext (.ref I)) Q E s := by
  have hT : s.TypeIs (.ref I) "callable_iterator" := ⟨_, (N _ hm).1, rfl⟩
  unfold pyNext
  refine wpAny_bind (wpAny_attempt (wpAny_callSpecial?_slot (name := Str.ofString "__next__") hT slot_ci_next (wpAny_call_entry slot_ci_next hT entry_ci_next ?_ (args_ci_next _))))
  show wpAny _ _ (field (.ref I) 2 >>= _) _ _ s
  refine wpAny_bind (wpAny_field (N _ hm).1 rfl (x := .bool false) rfl ?_)
  refine wpAny_bind (wpAny_field (N _ hm).1 rfl (x := .ref q) rfl ?_)
  refine wpAny_bind (wpAny_attempt ?_)
  unfold callOutOfASlot borrowsExactly
  refine wpAny_bind (wpAny_bind (wpAny_load (N _ hq).1 ?_))
  dsimp only
  rw [if_pos (by decide)]
  refine wpAny_bind (wpAny_load hf ?_)
  rw [hfd]
  refine wpAny_pure ?_
  rw [if_pos rfl]
  refine wpAny_callBorrowed (wpAny_mono h (fun r s₁ hr => ?_) fun _ _ z => z.elim)
  obtain ⟨x, u, rfl, hx, hI, hQ⟩ := hr
  refine wpAny_bind (wpAny_field hI rfl (x := .bool false) rfl ?_)
  rw [if_neg (by decide)]
  refine wpAny_bind (wpAny_field hI rfl (x := .str (Str.ofString "") t) rfl ?_)
  refine wpAny_bind (wpAny_holding (eqBool_str ?_))
  have hb : (Str.ofString "" == x) = false := beq_false_of_ne fun e => hx (by rw [← e]; decide +kernel)
  rw [hb]
  exact wpAny_pure ⟨_, rfl, wpAny_pure hQ⟩
end
end Mine
end

section
open PySem PySem.W PyProof.Rows PySem.Calls PySem.Spec
set_option Elab.async false
set_option maxRecDepth 100000
set_option maxHeartbeats 4000000
namespace Mine
/-- a closing mark is reached -/
noncomputable def lexT : Bool → List Nat → Bool
  | _, [] => false
  | true, _ :: r => lexT false r
  | false, c :: r => if c = 34 then true else if c = 92 then lexT true r else lexT false r
theorem lexT_cons {c : Nat} {r : List Nat} (h : lexT false (c :: r) = true) (h1 : c ≠ 34) (h2 : c ≠ 92) : lexT false r = true := by rw [lexT, if_neg h1, if_neg h2] at h; exact h
theorem lexT_esc {r : List Nat} (h : lexT false (92 :: r) = true) : ∃ c r', r = c :: r' ∧ lexT false r' = true := by
  rw [lexT, if_neg (by decide), if_pos rfl] at h
  cases r with
  | nil => simp [lexT] at h
  | cons c r' => exact ⟨c, r', rfl, by rw [lexT] at h; exact h⟩
theorem lexF_mark (r : List Nat) : lexF false (34 :: r) = ([], r.length) := by rw [lexF, if_pos rfl]
theorem lexF_esc (c : Nat) (r : List Nat) : lexF false (92 :: c :: r) = (c :: (lexF false r).1, (lexF false r).2) := by rw [lexF, if_neg (by decide), if_pos rfl, lexF]
theorem lexF_cons {c : Nat} {r : List Nat} (h1 : c ≠ 34) (h2 : c ≠ 92) : lexF false (c :: r) = (c :: (lexF false r).1, (lexF false r).2) := by rw [lexF, if_neg h1, if_neg h2]
theorem strs_cons {vs : List Value} {c : Nat} {r : List Nat} (h : StrsAre vs ((c :: r).map fun c => S [c])) : ∃ v vs', vs = v :: vs' ∧ StrsAre [v] [S [c]] ∧ StrsAre vs' (r.map fun c => S [c]) := by
  rw [List.map_cons] at h
  cases h with
  | cons x t h => exact ⟨_, _, rfl, .cons _ _ .nil, h⟩
theorem strs_one {v : Value} {x : Str} (h : StrsAre [v] [x]) : ∃ t, v = .str x t := by
  cases h with
  | cons x t h => exact ⟨t, rfl⟩
/-- where a turn of the inner loop ends -/
inductive TokEnd (h₀ : Heap) (L : Addr) (newsF : Obj → List (Addr × Obj)) (self : Value) (fit : Value) (c : Nat) (r1 tok : List Nat) (s₁ : Shared) : Flow → Shared → Prop
  | ret (h : Heap) (tk : Nat) (vs : List Value) (n : Nat) (m₂ : Str → Option Value) (u : Tok) (F : Fr h₀ L h m₂) (N : News h₀ L h (newsF (W.listOf (List.reverse vs).toArray n))) (hv : StrsAre vs (r1.map fun c => S [c])) (hc : c = 34) :
    TokEnd h₀ L newsF self fit c r1 tok s₁ (.ret (.str (S tok) u)) { s₁ with heap := h, toks := tk }
  | next (h : Heap) (tk : Nat) (vs : List Value) (n : Nat) (m₂ : Str → Option Value) (r tok' : List Nat) (u : Tok) (F : Fr h₀ L h m₂) (N : News h₀ L h (newsF (W.listOf (List.reverse vs).toArray n))) (hv : StrsAre vs (r.map fun c => S [c]))
    (m1 : m₂ (Str.ofString "self") = some self) (m2 : m₂ (Str.ofString "fiter") = some fit) (m3 : m₂ (Str.ofString "token") = some (.str (S tok') u))
    (hc : (c = 92 ∧ ∃ c2, r1 = c2 :: r ∧ tok' = tok ++ [c2]) ∨ (c ≠ 92 ∧ c ≠ 34 ∧ r = r1 ∧ tok' = tok ++ [c])) : TokEnd h₀ L newsF self fit c r1 tok s₁ .next { s₁ with heap := h, toks := tk }
/-- where the reading of a sign ends -/
inductive ReadEnd (h₀ : Heap) (L : Addr) (newsF : Obj → List (Addr × Obj)) (m : Str → Option Value) (c : Nat) (r1 : List Nat) (s₁ : Shared) : Option Value → Shared → Prop
  | mk (h : Heap) (tk : Nat) (vs : List Value) (n : Nat) (u : Tok) (F : Fr h₀ L h m) (N : News h₀ L h (newsF (W.listOf (List.reverse vs).toArray n))) (hv : StrsAre vs (r1.map fun c => S [c])) : ReadEnd h₀ L newsF m c r1 s₁ (some (.str (S [c]) u)) { s₁ with heap := h, toks := tk }
inductive TInv (h₀ : Heap) (L : Addr) (newsF : Obj → List (Addr × Obj)) (self it : Value) (word : List Nat × Nat) (s : Shared) : Nat → Shared → Prop
  | mk (h : Heap) (tk : Nat) (m : Str → Option Value) (vs : List Value) (n : Nat) (r tok : List Nat) (u : Tok) (F : Fr h₀ L h m) (N : News h₀ L h (newsF (W.listOf (List.reverse vs).toArray n))) (hv : StrsAre vs (r.map fun c => S [c])) (hT : lexT false r = true) (hA : Alph r) (hl : tok.length + r.length ≤ 700)
    (hw : word = (tok ++ (lexF false r).1, (lexF false r).2)) (m1 : m (Str.ofString "self") = some self) (m2 : m (Str.ofString "fiter") = some it) (m3 : m (Str.ofString "token") = some (.str (S tok) u)) : TInv h₀ L newsF self it word s (r.length + 1) { s with heap := h, toks := tk }
section
variable {prog : Program} {w : World} {A : Around} {s : Shared} {env : Env} {h₀ : Heap}
theorem loop_once {R : Result → Shared → Prop} {x : Str} {px : Pos} {it : Value} {body : List Stmt}
    (h : wpAny (model prog w) A (pyNext it) (fun r s₁ => match r with | none => False | some v => wpAny (model prog w) A (assign (.Name x px) env v) (fun _ s₂ => wpAny (model prog w) A (execs body env) (fun f s₃ => match f with | .ret v => R (.ok (.ret v)) s₃ | _ => False) (fun _ _ => False) s₂) (fun _ _ => False) s₁) (fun _ _ => False) s) :
    codeAny (model prog w) A (.forLoop (.Name x px) it body [] env) R s := by
  refine codeAny_forLoop (fun k s' => k = 1 ∧ s' = s) (fun k s' hk => ?_) 1 ⟨rfl, rfl⟩
  obtain ⟨rfl, rfl⟩ := hk
  refine wpAny_mono h (fun r s₁ hr => ?_) fun _ _ z => z.elim
  cases r with
  | none => exact hr.elim
  | some v =>
    refine wpAny_mono hr (fun _ s₂ h₂ => wpAny_mono h₂ (fun f s₃ h₃ => ?_) fun _ _ z => z.elim) fun _ _ z => z.elim
    cases f with
    | ret v => exact h₃
    | next => exact h₃.elim
    | brk => exact h₃.elim
    | cont => exact h₃.elim
theorem tok_loop {R : Result → Shared → Prop} {px : Pos} {it self : Value} {body : List Stmt} {newsF : Obj → List (Addr × Obj)} {m : Str → Option Value} {D : Addr} {news9 : List (Addr × Obj)} {r0 : List Nat} {vs0 : List Value} {n0 : Nat} {t0 : Tok} {word : List Nat × Nat}
    (hx : env.kindOf (Str.ofString "ch") = some .local) (hp : (env.scope.kind == .class || (env.scope.kind == .module && env.locals != env.globals)) = false)
    (F : Fr h₀ env.locals s.heap m) (N : News h₀ env.locals s.heap news9) (U : UpdF D (W.listOf vs0.reverse.toArray n0) news9 newsF) (hA : Alph r0) (hv : StrsAre vs0 (r0.map fun c => S [c])) (hT : lexT false r0 = true) (hl : r0.length ≤ 700) (hw : word = lexF false r0)
    (m1 : m (Str.ofString "self") = some self) (m2 : m (Str.ofString "fiter") = some it) (m3 : m (Str.ofString "token") = some (.str (S []) t0))
    (next : ∀ (c : Nat) (r1 : List Nat) (vs : List Value) (v : Value) (n : Nat) (m₁ : Str → Option Value) (s₁ : Shared), (∃ h tk, s₁ = { s with heap := h, toks := tk }) → r1.length ≤ 700 → (c = 34 ∨ c = 92 ∨ (48 ≤ c ∧ c ≤ 57)) → StrsAre [v] [S [c]] → StrsAre vs (r1.map fun c => S [c]) → Fr h₀ env.locals s₁.heap m₁ → News h₀ env.locals s₁.heap (newsF (W.listOf (v :: vs).reverse.toArray n)) →
      wpAny (model prog w) A (pyNext it) (ReadEnd h₀ env.locals newsF m₁ c r1 s₁) (fun _ _ => False) s₁)
    (turn : ∀ (c : Nat) (r1 tok : List Nat) (vs : List Value) (n : Nat) (m₁ : Str → Option Value) (u u' : Tok) (s₁ : Shared), (∃ h tk, s₁ = { s with heap := h, toks := tk }) → r1.length ≤ 700 → tok.length ≤ 700 → (c = 34 ∨ c = 92 ∨ (48 ≤ c ∧ c ≤ 57)) → Alph r1 → (c = 92 → ∃ c2 r2, r1 = c2 :: r2) → StrsAre vs (r1.map fun c => S [c]) →
      Fr h₀ env.locals s₁.heap (fun y => if y = Str.ofString "ch" then some (.str (S [c]) u) else if y = Str.ofString "self" then some self else if y = Str.ofString "fiter" then some it else if y = Str.ofString "token" then some (.str (S tok) u') else m₁ y) →
      News h₀ env.locals s₁.heap (newsF (W.listOf vs.reverse.toArray n)) →
      wpAny (model prog w) A (execs body env) (TokEnd h₀ env.locals newsF self it c r1 tok s₁) (fun _ _ => False) s₁)
    (hR : ∀ (h : Heap) (tk : Nat) (vs : List Value) (n : Nat) (m' : Str → Option Value) (u : Tok) (r : List Nat), r.length = word.2 → Fr h₀ env.locals h m' → News h₀ env.locals h (newsF (W.listOf (List.reverse vs).toArray n)) → StrsAre vs (r.map fun c => S [c]) → R (.ok (.ret (.str (S word.1) u))) { s with heap := h, toks := tk }) :
    codeAny (model prog w) A (.forLoop (.Name (Str.ofString "ch") px) it body [] env) R s := by
  have N0 : News h₀ env.locals s.heap (newsF (W.listOf vs0.reverse.toArray n0)) := by
    obtain ⟨pre, post, e1, e2, _, _⟩ := U.split
    rw [e2, ← e1]; exact N
  refine codeAny_forLoop (TInv h₀ env.locals newsF self it word s) ?_ (r0.length + 1) (.mk s.heap s.toks m vs0 n0 r0 [] t0 F N0 hv hT hA (by simpa using hl) (by rw [hw]; rfl) m1 m2 m3)
  intro k s' hk
  cases hk with
  | mk h tk m' vs n r tok u F' N' hv' hT' hA' hl' hw' q1 q2 q3 =>
  cases r with
  | nil => simp [lexT] at hT'
  | cons c r1 =>
    rw [List.length_cons] at hl'
    refine hide fun G9 k9 => ?_
    obtain ⟨v, vs', ev, hv1, hv2⟩ := strs_cons (c := c) (r := r1) hv'
    subst ev
    refine k9 ?_
    clear k9
    refine wpAny_mono (next c r1 vs' v n m' _ ⟨h, tk, rfl⟩ (by omega) (hA' c (List.mem_cons_self ..)) hv1 hv2 F' N') (fun x s₂ hx2 => ?_) fun _ _ z => z.elim
    cases hx2 with
    | mk h2 tk2 vs2 n2 u2 F2 N2 hv3 =>
    refine wpAny_assign_Name (wpAny_storeName_local hx F2.ns (fun h3 hn3 hs3 => ?_) hp)
    replace hs3 : Heap.SameBut env.locals h2 h3 := hs3
    have F3 := F2.set hn3 hs3
    have N3 := N2.set hs3
    rw [show m' = (fun y => if y = Str.ofString "self" then some self else if y = Str.ofString "fiter" then some it else if y = Str.ofString "token" then some (.str (S tok) u) else m' y) from funext fun y => by rw [upd_pt q3, upd_pt q2, upd_pt q1]] at F3
    refine wpAny_mono (turn c r1 tok vs2 n2 m' u2 u _ ⟨h3, _, rfl⟩ (by omega) (by omega) (hA' c (List.mem_cons_self ..)) (fun x hx => hA' x (List.mem_cons_of_mem _ hx)) (fun e => ?_) hv3 F3 N3) (fun f s₄ h₄ => ?_) fun _ _ z => z.elim
    · subst e
      obtain ⟨c2, r2, e, _⟩ := lexT_esc hT'
      exact ⟨c2, r2, e⟩
    · cases h₄ with
      | ret h4 tk4 vs4 n4 m4 u4 F4 N4 hv4 hc =>
        subst hc
        rw [lexF_mark, List.append_nil] at hw'
        have e1 : tok = word.1 := by rw [hw']
        have e2 : r1.length = word.2 := by rw [hw']
        show R (.ok (.ret (.str (S tok) u4))) _
        rw [e1]
        exact hR _ _ _ _ _ _ _ e2 F4 N4 hv4
      | next h4 tk4 vs4 n4 m4 r4 tok' u4 F4 N4 hv4 e1 e2 e3 hc =>
        refine ⟨r4.length + 1, ?_⟩
        rcases hc with ⟨hc, c2, hr, ht⟩ | ⟨hc1, hc2, hr, ht⟩
        · subst hc hr ht
          obtain ⟨c3, r3, e, hT3⟩ := lexT_esc hT'
          obtain ⟨rfl, rfl⟩ := List.cons.inj e
          rw [lexF_esc] at hw'
          rw [List.length_cons] at hl'
          exact ⟨by simp only [List.length_cons]; omega, .mk h4 tk4 m4 vs4 n4 r4 (tok ++ [c2]) u4 F4 N4 hv4 hT3 (fun x hx => hA' x (List.mem_cons_of_mem _ (List.mem_cons_of_mem _ hx))) (by simp only [List.length_append, List.length_cons, List.length_nil]; omega) (by rw [hw', List.append_assoc]; rfl) e1 e2 e3⟩
        · subst hr ht
          rw [lexF_cons hc2 hc1] at hw'
          exact ⟨by simp only [List.length_cons]; omega, .mk h4 tk4 m4 vs4 n4 r4 (tok ++ [c]) u4 F4 N4 hv4 (lexT_cons hT' hc2 hc1) (fun x hx => hA' x (List.mem_cons_of_mem _ hx)) (by simp only [List.length_append, List.length_cons, List.length_nil]; omega) (by rw [hw', List.append_assoc]; rfl) e1 e2 e3⟩
theorem my_pop {E : Value → Shared → Prop} {Q : Value → Shared → Prop} {L D : Addr} {m : Str → Option Value} {news news' : List (Addr × Obj)} {v : Value} {vs : List Value} {n : Nat} (F : Fr h₀ L s.heap m) (N : News h₀ L s.heap news)
    (U : Upd D (W.listOf (v :: vs).reverse.toArray n) (W.listOf vs.reverse.toArray (n + 1)) news news') (hz : vs.length ≤ 900) (h : ∀ h', Fr h₀ L h' m → News h₀ L h' news' → Q v { s with heap := h' }) :
    wpAny (model prog w) A (call (.builtin "list.pop") [.ref D]) Q E s :=
  kl_pop F N (by show kl_last ((v :: vs).reverse) = some (vs.reverse, v); rw [List.reverse_cons]; exact kpa_last v vs.reverse) U
    (by show ((v :: vs).reverse).length ≤ _; rw [List.length_reverse, List.length_cons, PySem.sizeLine_eq]; omega) h
theorem my_truthy {E : Value → Shared → Prop} {Q : Bool → Shared → Prop} {L D : Addr} {news : List (Addr × Obj)} {v : Value} {vs : List Value} {n : Nat} (N : News h₀ L s.heap news) (hm : (D, W.listOf (v :: vs).reverse.toArray n) ∈ news) (hz : vs.length ≤ 900)
    (h : Q true { s with toks := s.toks + 1 + 1 }) : wpAny (model prog w) A (truthy (.ref D)) Q E s := by
  refine wpAny_truthy_list (isList_of N hm) (by rw [List.size_toArray, List.length_reverse, List.length_cons]; omega) ?_
  have : (!((v :: vs).reverse.toArray).isEmpty) = true := by simp
  rw [this]
  exact h
theorem my_eqF {E : Value → Shared → Prop} {Q : Value → Shared → Prop} {x y : Str} {t u : Tok} (e : (x == y) = false) (h : Q (.bool false) s) : wpAny (model prog w) A (compareOp .Eq (.str x t) (.str y u)) Q E s := eq_str (by rw [e]; exact h)
theorem my_notin_ws {E : Value → Shared → Prop} {Q : Value → Shared → Prop} {t u : Tok} (h : Q (.bool false) s) : wpAny (model prog w) A (compareOp .In (.str (S [34]) t) (.str (Str.ofString "\n\t\r ") u)) Q E s := in_str (by
  rw [show (!(Builtin.Str.occurrences (Str.ofString "\n\t\r ") (S [34]) 0 (Str.ofString "\n\t\r ").length 1).isEmpty) = false by decide +kernel]
  exact h)
theorem nl_no {c : Nat} (h : c = 34 ∨ c = 92 ∨ (48 ≤ c ∧ c ≤ 57)) : (S [c] == Str.ofString "\n") = false := by
  rw [show Str.ofString "\n" = S [10] by decide +kernel]
  exact beq_false_of_ne fun e => by have := S_inj e; simp at this; omega
theorem q_no {c : Nat} (h : c ≠ 34) : (S [c] == Str.ofString "\"") = false := by
  rw [show Str.ofString "\"" = S [34] by decide +kernel]
  exact beq_false_of_ne fun e => h (by simpa using S_inj e)
theorem b_no {c : Nat} (h : c ≠ 92) : (S [c] == Str.ofString "\\") = false := by
  rw [show Str.ofString "\\" = S [92] by decide +kernel]
  exact beq_false_of_ne fun e => h (by simpa using S_inj e)
theorem tokEnd_next {h : Heap} {tk : Nat} {L : Addr} {newsF : Obj → List (Addr × Obj)} {news9 : List (Addr × Obj)} {self fit : Value} {c n : Nat} {r1 r tok tok' : List Nat} {u : Tok} {vs : List Value} {m₂ : Str → Option Value} {x : Str}
    (F : Fr h₀ L h m₂) (N : News h₀ L h news9) (hN : news9 = newsF (W.listOf (List.reverse vs).toArray n)) (hv : StrsAre vs (r.map fun c => S [c])) (m1 : m₂ (Str.ofString "self") = some self) (m2 : m₂ (Str.ofString "fiter") = some fit) (m3 : m₂ (Str.ofString "token") = some (.str x u))
    (e : x = S tok') (hc : (c = 92 ∧ ∃ c2, r1 = c2 :: r ∧ tok' = tok ++ [c2]) ∨ (c ≠ 92 ∧ c ≠ 34 ∧ r = r1 ∧ tok' = tok ++ [c])) : TokEnd h₀ L newsF self fit c r1 tok s .next { s with heap := h, toks := tk } := by
  subst e hN
  exact .next h tk vs n m₂ r tok' u F N hv m1 m2 m3 hc
theorem tokEnd_ret {h : Heap} {tk : Nat} {L : Addr} {newsF : Obj → List (Addr × Obj)} {news9 : List (Addr × Obj)} {self fit : Value} {n : Nat} {r1 tok : List Nat} {u : Tok} {vs : List Value} {m₂ : Str → Option Value}
    (F : Fr h₀ L h m₂) (N : News h₀ L h news9) (hN : news9 = newsF (W.listOf (List.reverse vs).toArray n)) (hv : StrsAre vs (r1.map fun c => S [c])) : TokEnd h₀ L newsF self fit 34 r1 tok s (.ret (.str (S tok) u)) { s with heap := h, toks := tk } := by
  subst hN
  exact .ret h tk vs n m₂ u F N hv rfl
theorem readEnd_of {h : Heap} {tk : Nat} {L : Addr} {newsF : Obj → List (Addr × Obj)} {news9 : List (Addr × Obj)} {c n : Nat} {r1 : List Nat} {u : Tok} {vs : List Value} {m : Str → Option Value}
    (F : Fr h₀ L h m) (N : News h₀ L h news9) (hN : news9 = newsF (W.listOf (List.reverse vs).toArray n)) (hv : StrsAre vs (r1.map fun c => S [c])) : ReadEnd h₀ L newsF m c r1 s (some (.str (S [c]) u)) { s with heap := h, toks := tk } := by
  subst hN
  exact .mk h tk vs n u F N hv
end
end Mine
namespace Mine
/-! The nested def: its code object is made in the first round, and found in the later ones. -/
noncomputable abbrev pieceQual : Str := Str.ofString "_law_word" ++ (".<locals>." : Str) ++ Str.ofString "_law_piece"
def TabOk (l c : Nat) (ps : Array Value) (news : List (Addr × Obj)) : Prop :=
  ps = #[] ∨ ∃ c' oc vs tq, ps = #[rawInt l, rawInt c, .ref c'] ∧ (c', oc) ∈ news ∧ oc.data = .fields vs ∧ vs[1]? = some (.str pieceQual tq)
theorem updF_mid {P : Addr} {o : Obj} : ∀ {pre post : List (Addr × Obj)}, (∀ q ∈ pre, q.1 ≠ P) → (∀ q ∈ post, q.1 ≠ P) → UpdF P o (pre ++ (P, o) :: post) (fun o' => pre ++ (P, o') :: post)
  | [], _, _, h2 => .head h2
  | p :: pre, post, h1, h2 => .tail (h1 p (List.mem_cons_self ..)) (updF_mid (fun q hq => h1 q (List.mem_cons_of_mem _ hq)) h2)
section
variable {M : Model} {A : Around} {E : Value → Shared → Prop} {s : Shared} {h₀ : Heap} {L a c P : Addr} {m mg mb : Str → Option Value} {cn : Str} {cs : Scope} {ccd : Value} {cl : List (Str × Addr)} {pre post : List (Addr × Obj)}
  {p : Program} {loose : List Str} {mean : ExcName → Option Value} {name qual : Str} {params : Arguments} {body : List Stmt} {scope : Scope} {ps : Array Value} {pos : Pos} {firstLine : Nat} {clos : List (Str × Addr)}
theorem my_nest {Q : Value → Shared → Prop} (F : Fr h₀ L s.heap m) (N : News h₀ L s.heap (pre ++ (P, tabObj ps) :: post)) (T : Top p loose mean mg mb h₀) (C : CodeHd h₀ c P) (hcd : ccd = .ref c) (h1 : ∀ q ∈ pre, q.1 ≠ P) (h2 : ∀ q ∈ post, q.1 ≠ P)
    (hO : TabOk pos.line pos.col ps post) (hq : qual = pieceQual) {qa qb : Addr} {oa ob : Obj} (ha : (qa, oa) ∈ pre) (hb : (qb, ob) ∈ pre) (hapa : AllLt qa post) (hapb : AllLt qb post) (hcl : closureFor scope (envX cn cs L a ccd cl) = pure clos)
    (h : ∀ f c' oc vs t ctv doc h' tk, Fr h₀ L h' m →
      News h₀ L h' ((f, fnMade name qual params body scope clos doc ((mg "__name__").getD .none) c' ctv) :: (c', oc) :: (pre ++ (P, tabObj #[rawInt pos.line, rawInt pos.col, .ref c']) :: post)) →
      oc.data = .fields vs → vs[1]? = some (.str qual t) → Ne (α := Nat) qa c' ∧ Ne (α := Nat) qb c' → Ne (α := Nat) P c' → LT.lt (α := Nat) c' f → (∀ q ∈ pre ++ (P, tabObj ps) :: post, q.1 < f) → Q (.ref f) { s with heap := h', toks := tk }) :
    wpAny M A (makeFunction name qual params (.stmts body) scope (envX cn cs L a ccd cl) [] [] [] pos firstLine) Q E s := by
  rcases hO with rfl | ⟨c', oc, vs, tq, rfl, hm, hd, hv⟩
  · refine nest_K F N T C hcd (updF_mid h1 h2) True.intro rfl hcl (fun f c' oc vs t ctv doc h' tk F' N' d1 d2 l1 l2 => ?_)
    refine h f c' oc vs t ctv doc h' tk F' N' d1 d2 ⟨Nat.ne_of_lt (l1 _ (List.mem_append_left _ ha)), Nat.ne_of_lt (l1 _ (List.mem_append_left _ hb))⟩ ?_ l2 (fun q hq => ?_)
    · exact Nat.ne_of_lt (l1 (P, tabObj #[]) (List.mem_append_right _ (List.mem_cons_self ..)))
    · exact Nat.lt_trans (l1 q hq) l2
  · have hmem : (P, tabObj #[rawInt pos.line, rawInt pos.col, .ref c']) ∈ pre ++ (P, tabObj #[rawInt pos.line, rawInt pos.col, .ref c']) :: post := List.mem_append_right _ (List.mem_cons_self ..)
    have hcm : (c', oc) ∈ pre ++ (P, tabObj #[rawInt pos.line, rawInt pos.col, .ref c']) :: post := List.mem_append_right _ (List.mem_cons_of_mem _ hm)
    refine nestHit_K (c' := c') F N T C hcd hmem (by simp [TriplesOk, rawInt]) (by simp [codeAmong, rawInt]) hcl (fun f ctv doc h' tk F' N' l1 => ?_)
    refine h f c' oc vs tq ctv doc h' tk F' (fun q hq => ?_) hd (hq ▸ hv) ⟨Nat.ne_of_gt (allLt_mem hapa _ hm), Nat.ne_of_gt (allLt_mem hapb _ hm)⟩ (fun e => h2 _ hm e.symm) (l1 _ hcm) l1
    rcases List.mem_cons.mp hq with e | hq
    · rw [e]; exact N' _ (List.mem_cons_self ..)
    · rcases List.mem_cons.mp hq with e | hq
      · rw [e]; exact N' _ (List.mem_cons_of_mem _ hcm)
      · exact N' _ (List.mem_cons_of_mem _ hq)
end
theorem allLt_succ : ∀ {L : Nat} {l : List (Addr × Obj)}, AllLt (L : Addr) l → AllLt ((L + 1 : Nat) : Addr) l
  | _, [], _ => trivial
  | _, _ :: _, h => ⟨Nat.lt_succ_of_lt h.1, allLt_succ h.2⟩
theorem lex_len : ∀ (l : List Nat) (e : Bool), (lexF e l).2 ≤ l.length
  | [], e => by cases e <;> simp [lexF]
  | c :: r, true => by rw [lexF, List.length_cons]; have := lex_len r false; dsimp only; omega
  | c :: r, false => by
    rw [lexF, List.length_cons]
    split
    · dsimp only; omega
    · split
      · have := lex_len r true; omega
      · have := lex_len r false; dsimp only; omega
end Mine
end

section
open PySem PySem.W PyProof.Rows PySem.Calls PySem.Spec
set_option Elab.async false
set_option maxRecDepth 100000
set_option maxHeartbeats 4000000
namespace Mine
noncomputable abbrev rIter (x left step : Int) : Obj := { cls := .type "range_iterator", data := .fields #[rawInt x, rawInt left, rawInt step] }
inductive RInv (h₀ : Heap) (L I : Addr) (n : Nat) (J : Nat → (Str → Option Value) → List (Addr × Obj) → Shared → Prop) (s : Shared) : Nat → Prop
  | mk (m : Str → Option Value) (nw : List (Addr × Obj)) (i : Nat) (hI : s.heap.get? I = some (rIter (i : Nat) ((n : Int) - (i : Nat)) 1)) (F : Fr h₀ L s.heap m) (N : News h₀ L s.heap nw) (ha : ∀ p ∈ nw, p.1 ≠ I) (hJ : J i m nw s) (hi : i ≤ n) : RInv h₀ L I n J s (n + 1 - i)
section
variable {prog : Program} {w : World} {A : Around} {s : Shared} {env : Env} {h₀ : Heap}
/-- the loop of the rounds, in the logic of the claim's stacks; the generators may grow -/
theorem C_rounds {R : Result → Shared → Prop} {x : Str} {px : Pos} {body : List Stmt} {n : Nat} {I : Addr} {m : Str → Option Value} {news : List (Addr × Obj)} (hh : A.handled = none) (hx : env.kindOf x = some .local)
    (hp : (env.scope.kind == .class || (env.scope.kind == .module && env.locals != env.globals)) = false)
    (hI : h₀.get? I = none) (hLI : env.locals ≠ I) (hnI : ∀ p ∈ news, p.1 ≠ I)
    (hst : s.heap.get? I = some (rIter 0 n 1)) (F : Fr h₀ env.locals s.heap m) (N : News h₀ env.locals s.heap news)
    (J : Nat → (Str → Option Value) → List (Addr × Obj) → Shared → Prop) (hJ0 : J 0 m news s) (hJk : ∀ i m nw s h' tk, J i m nw s → J i m nw { s with heap := h', toks := tk })
    (step : ∀ (I9 : Addr), I9 = I → ∀ (i : Nat) (t : Tok) m₁ nw s₁, i < n → J i m₁ nw s₁ → Fr h₀ env.locals s₁.heap (fun y => if y = x then some (.int (i : Int) t) else m₁ y) →
      News h₀ env.locals s₁.heap ((I9, rIter ((i : Int) + 1) ((n : Int) - i - 1) 1) :: nw) → (∀ p ∈ nw, p.1 ≠ I9) →
      wpC (model prog w) A (execs body env) (fun f s' => match f with
        | .next => ∃ m₂ nw₂, Fr h₀ env.locals s'.heap m₂ ∧ News h₀ env.locals s'.heap ((I9, rIter ((i : Int) + 1) ((n : Int) - i - 1) 1) :: nw₂) ∧ (∀ p ∈ nw₂, p.1 ≠ I9) ∧ J (i + 1) m₂ nw₂ s'
        | .ret v => R (.ok (.ret v)) s'
        | _ => False) (fun _ _ => False) s₁)
    (hR : ∀ m' nw s', Fr h₀ env.locals s'.heap m' → News h₀ env.locals s'.heap nw → J n m' nw s' → R (.ok .next) s') :
    codeC (model prog w) A (.forLoop (.Name x px) (.ref I) body [] env) R s := by
  have W := Walks.range (prog := prog) (w := w) hh I 0 1 n
  refine C_forLoop (fun k s' => RInv h₀ env.locals I n J s' k) ?_ (n + 1) (.mk m news 0 (by simpa using hst) F N hnI hJ0 (Nat.zero_le _))
  intro k s' hk
  cases hk with
  | mk m' nw i hsI F' N' ha hJ hi =>
  have next : ∀ h₁ : Heap, (∀ b o, b ∉ [I] → s'.heap.get? b = some o → h₁.get? b = some o) → Fr h₀ env.locals h₁ m' ∧ News h₀ env.locals h₁ nw := fun h₁ hk₁ =>
    ⟨⟨F'.ns.at' fun o e => hk₁ _ o (fun q => hLI (List.mem_singleton.mp q)) e, fun b o e => hk₁ b o (fun q => by rw [List.mem_singleton.mp q, hI] at e; cases e) (F'.keep b o e), F'.above⟩,
      fun p hp => ⟨hk₁ _ _ (fun q => ha p hp (List.mem_singleton.mp q)) (N' p hp).1, (N' p hp).2⟩⟩
  have hsI' : IsRangeIter s'.heap I (0 + (i : Nat) * 1) ((n : Int) - (i : Nat)) 1 := by
    have e : (0 + ((i : Nat) : Int) * 1) = (i : Nat) := by omega
    rw [e]; exact hsI
  by_cases hlt : i < n
  · refine W.item i _ _ _ hlt hsI' fun v h₁ tk₁ hv hst₁ hk₁ => ?_
    refine hide fun G9 k9 => ?_
    obtain ⟨t, ev⟩ := hv
    subst ev
    refine k9 ?_
    clear k9
    obtain ⟨F₁, N₁⟩ := next h₁ hk₁
    refine wpAny_assign_Name (wpAny_storeName_local hx F₁.ns (fun h₂ hn₂ hs₂ => ?_) hp)
    replace hs₂ : Heap.SameBut env.locals h₁ h₂ := hs₂
    have e1 : (0 + ((i : Nat) : Int) * 1) = (i : Int) := by omega
    have hI1 : h₁.get? I = some (rIter ((i : Int) + 1) ((n : Int) - i - 1) 1) := by
      have z : h₁.get? I = some (rIter (0 + ((i + 1 : Nat) : Int) * 1) ((n : Int) - ((i + 1 : Nat) : Int)) 1) := hst₁
      rw [show (0 + ((i + 1 : Nat) : Int) * 1) = (i : Int) + 1 by push_cast; omega, show (n : Int) - ((i + 1 : Nat) : Int) = (n : Int) - i - 1 by push_cast; omega] at z
      exact z
    have hI2 : h₂.get? I = some (rIter ((i : Int) + 1) ((n : Int) - i - 1) 1) := (hs₂.2 I (Ne.symm hLI)).trans hI1
    have F₂ := F₁.set hn₂ hs₂
    rw [e1] at F₂
    have N₂ := N₁.set hs₂
    refine wpC_mono (step I rfl i t m' nw _ hlt (hJk _ _ _ _ h₂ _ (hJk _ _ _ s' h₁ tk₁ hJ)) F₂ (fun q hq => ?_) ha) (fun f s₃ h₃ => ?_) fun _ _ z => z.elim
    · rcases List.mem_cons.mp hq with e | hq
      · rw [e]; exact ⟨hI2, Ne.symm hLI, hI⟩
      · exact N₂ q hq
    · cases f with
      | next =>
        obtain ⟨m₂, nw₂, F₃, N₃, ha₃, hJ₃⟩ := h₃
        refine ⟨n + 1 - (i + 1), by omega, .mk m₂ nw₂ (i + 1) ?_ F₃ (fun q hq => N₃ q (List.mem_cons_of_mem _ hq)) ha₃ hJ₃ hlt⟩
        have z := (N₃ _ (List.mem_cons_self ..)).1
        rw [show ((i + 1 : Nat) : Int) = (i : Int) + 1 by push_cast; rfl, show (n : Int) - ((i : Int) + 1) = (n : Int) - i - 1 by omega]
        exact z
      | ret v => exact h₃
      | brk => exact h₃.elim
      | cont => exact h₃.elim
  · have hin : i = n := by omega
    subst hin
    refine W.done _ _ _ hsI' fun h₁ tk₁ hk₁ => wpAny_execs_nil ?_
    obtain ⟨F₁, N₁⟩ := next h₁ hk₁
    exact hR m' nw _ F₁ N₁ (hJk _ _ _ _ _ _ hJ)
theorem my_range {K : Value → Shared → Prop} {E : Value → Shared → Prop} {n : Nat} {t : Tok} {L : Addr} {m : Str → Option Value} {news : List (Addr × Obj)} (hn : n ≤ 1000) (F : Fr h₀ L s.heap m) (N : News h₀ L s.heap news)
    (h : ∀ h' tk I, Fr h₀ L h' m → News h₀ L h' ((I, rIter 0 n 1) :: news) → (∀ p ∈ news, p.1 < I) → K (.ref I) { s with heap := h', toks := tk }) :
    wpAny (model prog w) A (call (.type "range") [.int (n : Int) t]) (fun xv s₁ => wpAny (model prog w) A (pyIter xv) K E s₁) E s := by
  refine call_range_1 ?_
  refine wpAny_pyIter_range (IsRange.new ..) (small_one (by decide) (by decide) (by omega) (by omega)) ?_
  have hsz : Builtin.Range.rangeSize 0 (n : Int) 1 = (n : Int) := by rw [rangeSize_one]; split <;> omega
  rw [hsz]
  have N1 := news_sub (News.push F N { cls := .type "range", data := .fields #[.int 0 s.toks, .int n t, .int 1 (s.toks + 1)] } rfl) (fun q hq => List.mem_cons_of_mem _ hq)
  have F1 := F.push { cls := .type "range", data := .fields #[.int 0 s.toks, .int n t, .int 1 (s.toks + 1)] }
  refine h _ _ _ (F1.push _) (News.push F1 N1 _ rfl) (fun p hp => ?_)
  exact Heap.lt_size (N1 p hp).1
end
end Mine
end

section
open PySem PySem.W PyProof.Rows PySem.Calls PySem.Spec
set_option Elab.async false
set_option maxRecDepth 100000
set_option maxHeartbeats 4000000
namespace Mine
theorem lexT_none : ∀ (l : List Nat) (e : Bool), lexT e l = false → (lexF e l).2 = 0
  | [], e, _ => by cases e <;> simp [lexF]
  | c :: r, true, h => by rw [lexT] at h; rw [lexF]; exact lexT_none r false h
  | c :: r, false, h => by
    rw [lexT] at h
    rw [lexF]
    split
    · rename_i e; rw [if_pos e] at h; cases h
    · rename_i e
      rw [if_neg e] at h
      split
      · rename_i e2; rw [if_pos e2] at h; exact lexT_none r true h
      · rename_i e2; rw [if_neg e2] at h; exact lexT_none r false h
theorem lexT_zero : ∀ (l : List Nat) (e : Bool), lexT e (l ++ [0]) = lexT e l
  | [], e => by cases e <;> simp [lexT]
  | c :: r, true => by rw [List.cons_append, lexT, lexT, lexT_zero r false]
  | c :: r, false => by rw [List.cons_append, lexT, lexT, lexT_zero r true, lexT_zero r false]
theorem lexT_round {r : Nat} (hr : r < 5) {its : List (Nat × Nat)} (h : ∀ it ∈ its, it.1 ≠ 92) : lexT false ((wfold r its).2.2.1 ++ (wfold r its).2.2.2 ++ [34]) = true := by
  have hne : ∀ l : List Nat, (lexF false l).2 ≠ 0 → lexT false l = true := fun l hl => by
    cases e : lexT false l with
    | true => rfl
    | false => exact absurd (lexT_none l false e) hl
  have R := rel_all hr h
  cases hh : (wfold r its).2.2.2 with
  | nil =>
    rw [List.append_nil, ← lexT_zero, List.append_assoc]
    refine hne _ ?_
    rw [R.lex]
    show (lexF false [34, 0]).2 ≠ 0
    rw [lexF, if_pos rfl]
    decide
  | cons c z =>
    refine hne _ ?_
    have e := lex_round hr h
    rw [hh] at e
    rw [e]
    simp
end Mine
end

section
open PySem PySem.W PyProof.Rows PySem.Calls PySem.Spec
set_option Elab.async false
set_option maxRecDepth 100000
set_option maxHeartbeats 4000000
namespace Mine
/-- what holds between two rounds -/
def RJ (its : List (Nat × Nat)) (Di : Addr) (base9 : List (Addr × Obj)) (s₀ : Shared) (i : Nat) (m : Str → Option Value) (nw : List (Addr × Obj)) (s : Shared) : Prop :=
  ∃ tl ps rest, m (Str.ofString "left") = some (.str (S (wfold i its).2.1) tl) ∧ m (Str.ofString "items") = some (.ref Di) ∧ (i ≠ 0 → ∃ tt, m (Str.ofString "text") = some (.str (S (wfold (i - 1) its).2.1) tt)) ∧ AllBare s.gens ∧ s.os = s₀.os ∧
    nw = (123, tabObj ps) :: rest ∧ TabOk 109 4 ps rest ∧ (∀ q ∈ base9, q ∈ rest) ∧ ∀ p ∈ rest, p.1 ≠ 123
def PortEnd (h₀ : Heap) (L : Addr) (m : Str → Option Value) (nw : List (Addr × Obj)) (s : Shared) (f : Flow) (s' : Shared) : Prop :=
  f = .next ∧ ∃ h tk, s' = { s with heap := h, toks := tk } ∧ Fr h₀ L h m ∧ News h₀ L h nw
theorem ne_tab {h₀ h : Heap} {L a : Addr} {nw : List (Addr × Obj)} {o : Obj} {ps : Array Value} (N : News h₀ L h nw) (h1 : (a, o) ∈ nw) (h2 : (123, tabObj ps) ∈ nw) (ho : o.cls ≠ (tabObj ps).cls) : a ≠ 123 := fun e => by
  have e1 := (N _ h1).1
  have e2 := (N _ h2).1
  dsimp only at e1 e2
  rw [e, e2] at e1
  exact ho (by rw [Option.some.inj e1])
theorem q_app (b : List Nat) : Str.ofString "\"" ++ S b = S (34 :: b) := by
  rw [show Str.ofString "\"" = S [34] by decide +kernel, S_append]; rfl
theorem app_q (a : List Nat) : S a ++ Str.ofString "\"" = S (a ++ [34]) := by
  rw [show Str.ofString "\"" = S [34] by decide +kernel, S_append]
section
variable {prog : Program} {w : World} {A : Around} {s : Shared} {E : Value → Shared → Prop} {Q : Value → Shared → Prop} {t u : Tok} {a b : List Nat}
theorem my_neSame {x : Str} (h : Q (.bool false) s) : wpAny (model prog w) A (compareOp .NotEq (.str x t) (.str x u)) Q E s := ne_str (by
  have : (x != x) = false := by simp
  rw [this]; exact h)
theorem my_addq1 (hn : b.length ≤ 900) (h : ∀ t' tk, Q (.str (S (34 :: b)) t') { s with toks := tk }) : wpAny (model prog w) A (binaryOp .Add (.str (Str.ofString "\"") t) (.str (S b) u)) Q E s :=
  SB.add (fun t' tk => by rw [q_app]; exact h t' tk) (by
    show 1 + b.length ≤ _
    exact Nat.le_trans (show 1 + b.length ≤ 1000 by omega) (by decide))
theorem my_addq2 (hn : a.length ≤ 900) (h : ∀ t' tk, Q (.str (S (a ++ [34])) t') { s with toks := tk }) : wpAny (model prog w) A (binaryOp .Add (.str (S a) t) (.str (Str.ofString "\"") u)) Q E s :=
  SB.add (fun t' tk => by rw [app_q]; exact h t' tk) (by
    show a.length + 1 ≤ _
    exact Nat.le_trans (show a.length + 1 ≤ 1000 by omega) (by decide))
theorem my_lenS (hn : a.length ≤ 900) (h : ∀ tk tk', Q (.int ((a.length : Nat) : Int) tk) { s with toks := tk' }) : wpAny (model prog w) A (call (.builtin "len") [.str (S a) t]) Q E s :=
  len_str (by show ¬ ((a.length : Int) ≥ 2 ^ 63); omega) (h _ _)
theorem C_execs_nil {M : Model} {env : Env} {Q : Flow → Shared → Prop} (h : Q .next s) : wpC M A (execs [] env) Q E s := wpC_pure h
end
end Mine
namespace Mine
theorem fr_round {h₀ h : Heap} {L : Addr} {m : Str → Option Value} {v0 v1 v2 : Value} (F : Fr h₀ L h (fun y => if y = Str.ofString "turn" then some v0 else m y)) (e1 : m (Str.ofString "left") = some v1) (e2 : m (Str.ofString "items") = some v2) :
    Fr h₀ L h (fun y => if y = Str.ofString "turn" then some v0 else if y = Str.ofString "left" then some v1 else if y = Str.ofString "items" then some v2 else m y) := by
  rw [show (fun y => if y = Str.ofString "turn" then some v0 else if y = Str.ofString "left" then some v1 else if y = Str.ofString "items" then some v2 else m y) = (fun y => if y = Str.ofString "turn" then some v0 else m y) from funext fun y => by rw [upd_pt e2, upd_pt e1]]
  exact F
theorem rounds_start {h₀ h : Heap} {L Di D1 : Addr} {o1 : Obj} {k1 k2 : Tok} {tn lst : List (Addr × Obj)} {ns : List Int} (N : News h₀ L h lst) (h1 : (Di, o1) ∈ lst) (h2 : (D1, tup [.str (Str.ofString "1") k1, .int 0 k2]) ∈ lst) (h3 : ∀ p ∈ tn, p ∈ lst) (h4 : (123, tabObj #[]) ∈ lst)
    (hc1 : o1.cls = .type "list") (hts : ∀ (j : Nat) (p : Addr × Obj), tn[j]? = some p → ∃ a t1 t2, ns[j]? = some a ∧ p.2 = itTup a t1 t2) :
    News h₀ L h ((123, tabObj #[]) :: (Di, o1) :: (D1, tup [.str (Str.ofString "1") k1, .int 0 k2]) :: tn) ∧ ∀ p ∈ (Di, o1) :: (D1, tup [.str (Str.ofString "1") k1, .int 0 k2]) :: tn, p.1 ≠ 123 := by
  refine ⟨news_sub N fun q hq => ?_, fun p hp => ?_⟩
  · rcases List.mem_cons.mp hq with e | hq
    · rw [e]; exact h4
    rcases List.mem_cons.mp hq with e | hq
    · rw [e]; exact h1
    rcases List.mem_cons.mp hq with e | hq
    · rw [e]; exact h2
    · exact h3 q hq
  · rcases List.mem_cons.mp hp with e | hp
    · rw [e]; exact ne_tab N h1 h4 (by rw [hc1]; decide +kernel)
    rcases List.mem_cons.mp hp with e | hp
    · rw [e]; exact ne_tab N h2 h4 (by show Value.type "tuple" ≠ _; decide +kernel)
    · obtain ⟨j, hj, e⟩ := List.mem_iff_getElem.mp hp
      obtain ⟨a, t1, t2, _, e2⟩ := hts j p (by rw [List.getElem?_eq_getElem hj, e])
      obtain ⟨pa, po⟩ := p
      dsimp only at e2
      subst e2
      exact ne_tab N (h3 _ hp) h4 (by show Value.type "tuple" ≠ _; decide +kernel)
theorem portEnd_of {h₀ h : Heap} {L : Addr} {m : Str → Option Value} {nw newsX : List (Addr × Obj)} {s : Shared} {tk : Nat} (F : Fr h₀ L h m) (N : News h₀ L h newsX) (hs : ∀ q ∈ nw, q ∈ newsX) : PortEnd h₀ L m nw s .next { s with heap := h, toks := tk } := ⟨rfl, h, tk, rfl, F, news_sub N hs⟩
theorem num_of {l : List Nat} (ha : Alph l) (h1 : 34 ∉ l) (h2 : 92 ∉ l) (h3 : l ≠ []) (hl : l.length ≤ 600) : PySem.intText? (S l) = some ((PySem.NumText.digitsVal l : Nat) : Int) :=
  PySem.intText_digits (x := S l) (alph_digits ha h1 h2) h3 (by show l.length ≤ _; omega)
end Mine
namespace Mine
theorem rounds_start2 {h₀ h : Heap} {L Di D1 : Addr} {n1 : Nat} {k1 k2 : Tok} {tn lst : List (Addr × Obj)} {ns : List Int} (N : News h₀ L h lst) (h1 : (Di, W.listOf (Value.ref D1 :: tn.map fun p => Value.ref p.1).toArray n1) ∈ lst) (h2 : (D1, tup [.str (Str.ofString "1") k1, .int 0 k2]) ∈ lst) (h3 : ∀ p ∈ tn, p ∈ lst) (h4 : (123, tabObj #[]) ∈ lst)
    (hts : ∀ (j : Nat) (p : Addr × Obj), tn[j]? = some p → ∃ a t1 t2, ns[j]? = some a ∧ p.2 = itTup a t1 t2) (hl : tn.length = ns.length) :
    ∃ base9, News h₀ L h ((123, tabObj #[]) :: base9) ∧ (∀ p ∈ base9, p.1 ≠ 123) ∧ (∀ p ∈ base9, p ∈ lst) ∧ ∃ items : List Value, (Di, W.listOf items.toArray n1) ∈ base9 ∧ (itsOf ns).length = items.length ∧
      ∀ (i : Nat) (v : Value), items[i]? = some v → ∃ T t1 t2 sg dp, (itsOf ns)[i]? = some (sg, dp) ∧ v = Value.ref T ∧ (T, tup [.str (S [sg]) t1, .int (dp : Nat) t2]) ∈ base9 := by
  obtain ⟨a, b⟩ := rounds_start N h1 h2 h3 h4 rfl hts
  refine ⟨_, a, b, fun p hp => ?_, _, List.mem_cons_self .., ?_, items_hit hts (List.mem_cons_of_mem _ (List.mem_cons_self ..)) (fun p hp => List.mem_cons_of_mem _ (List.mem_cons_of_mem _ hp))⟩
  · rcases List.mem_cons.mp hp with e | hp
    · rw [e]; exact h1
    rcases List.mem_cons.mp hp with e | hp
    · rw [e]; exact h2
    · exact h3 p hp
  · simp [itsOf, hl]
end Mine
namespace Mine
section
variable {M : Model} {A : Around} {s : Shared} {h₀ : Heap} {L : Addr} {m : Str → Option Value} {nw : List (Addr × Obj)} {env : Env}
theorem C_port {st : Stmt} {rest : List Stmt} {Q : Flow → Shared → Prop} {E : Value → Shared → Prop} (F : Fr h₀ L s.heap m) (N : News h₀ L s.heap nw) (h2 : wpC M A (exec st env) (PortEnd h₀ L m nw s) (fun _ _ => False) s)
    (hrest : ∀ h tk, Fr h₀ L h m → News h₀ L h nw → wpC M A (execs rest env) Q E { s with heap := h, toks := tk }) : wpC M A (execs (st :: rest) env) Q E s := by
  refine C_execs_cons (wpC_mono h2 (fun f s' hf => ?_) fun _ _ z => z.elim)
  obtain ⟨rfl, h, tk, rfl, F', N'⟩ := hf
  exact hrest h tk F' N'
theorem ne_code {h : Heap} {a c' : Addr} {o oc : Obj} {vs : Array Value} {tq : Tok} (N : News h₀ L h nw) (h1 : (a, o) ∈ nw) (h2 : (c', oc) ∈ nw) (hd : oc.data = .fields vs) (hv : vs[1]? = some (.str pieceQual tq)) (ho : ∀ us, o.data = .fields us → ∀ t, us[1]? ≠ some (.str pieceQual t)) : c' ≠ a := fun e => by
  have e1 := (N _ h1).1
  have e2 := (N _ h2).1
  dsimp only at e1 e2
  rw [e, e1] at e2
  have e3 : o = oc := Option.some.inj e2
  subst e3
  exact ho vs hd tq hv
end
section
variable {prog : Program} {w : World} {A : Around} {s : Shared} {E : Value → Shared → Prop} {Q : Value → Shared → Prop} {t u : Tok} {a b : List Nat}
theorem my_addq3 (hn : a.length ≤ 900) (h : ∀ t' tk, Q (.str (S (34 :: (a ++ [34]))) t') { s with toks := tk }) : wpAny (model prog w) A (binaryOp .Add (.str (S (34 :: a)) t) (.str (Str.ofString "\"") u)) Q E s :=
  SB.add (fun t' tk => by rw [app_q]; exact h t' tk) (by
    show (34 :: a).length + 1 ≤ _
    rw [List.length_cons]
    exact Nat.le_trans (show a.length + 1 + 1 ≤ 1000 by omega) (by decide))
end
end Mine
namespace Mine
mutual
theorem alph_out : ∀ (l : List Nat) (e : Bool), Alph l → Alph (outF e l)
  | [], true, _ => fun c hc => by rw [outF] at hc; cases hc
  | [], false, _ => fun c hc => by rw [outF] at hc; cases hc
  | c :: r, true, h => fun d hd => by
    rw [outF] at hd
    rcases List.mem_cons.mp hd with e | hd
    · rw [e]; exact h c (List.mem_cons_self ..)
    · exact alph_out r false (fun x hx => h x (List.mem_cons_of_mem _ hx)) d hd
  | c :: r, false, h => fun d hd => by
    rw [outF] at hd
    have h' : Alph r := fun x hx => h x (List.mem_cons_of_mem _ hx)
    split at hd
    · rcases List.mem_cons.mp hd with e | hd
      · rw [e]; exact .inr (.inl rfl)
      · exact alph_out r true h' d hd
    · split at hd
      · exact alph_in r false [34] h' (fun x hx => by rw [List.mem_singleton.mp hx]; exact .inl rfl) d hd
      · rcases List.mem_cons.mp hd with e | hd
        · rw [e]; exact h c (List.mem_cons_self ..)
        · exact alph_out r false h' d hd
theorem alph_in : ∀ (l : List Nat) (e : Bool) (p : List Nat), Alph l → Alph p → Alph (inF e p l)
  | [], true, p, _, hp => fun c hc => by rw [inF] at hc; exact hp c hc
  | [], false, p, _, hp => fun c hc => by rw [inF] at hc; exact hp c hc
  | c :: r, true, p, h, hp => fun d hd => by
    rw [inF] at hd
    exact alph_in r false (p ++ [c]) (fun x hx => h x (List.mem_cons_of_mem _ hx)) (hp.append fun x hx => by rw [List.mem_singleton.mp hx]; exact h c (List.mem_cons_self ..)) d hd
  | c :: r, false, p, h, hp => fun d hd => by
    rw [inF] at hd
    have h' : Alph r := fun x hx => h x (List.mem_cons_of_mem _ hx)
    split at hd
    · exact alph_in r true (p ++ [92]) h' (hp.append fun x hx => by rw [List.mem_singleton.mp hx]; exact .inr (.inl rfl)) d hd
    · split at hd
      · exact alph_out r false h' d hd
      · exact alph_in r false (p ++ [c]) h' (hp.append fun x hx => by rw [List.mem_singleton.mp hx]; exact h c (List.mem_cons_self ..)) d hd
end
end Mine
namespace Mine
theorem round_end {h₀ h : Heap} {L I9 c' Di : Addr} {oc rI : Obj} {vs us : Array Value} {tq tt tl : Tok} {lst rest base9 : List (Addr × Obj)} {its : List (Nat × Nat)} {i : Nat} {m₂ : Str → Option Value} {s₁ s' : Shared} (N : News h₀ L h lst) (hd : oc.data = .fields vs) (hv : vs[1]? = some (.str pieceQual tq)) (hrI : rI.data = .fields us) (hus : ∀ t, us[1]? ≠ some (.str pieceQual t))
    (h2 : (c', oc) ∈ lst) (h1 : (123, tabObj #[rawInt (109 : Nat), rawInt (4 : Nat), .ref c']) ∈ lst) (h3 : (I9, rI) ∈ lst) (h4 : ∀ q ∈ rest, q ∈ lst) (hnI : ∀ p ∈ rest, p.1 ≠ I9) (hI123 : (123 : Addr) ≠ I9) (hn : ∀ p ∈ rest, p.1 ≠ 123) (hsub : ∀ q ∈ base9, q ∈ rest)
    (F : Fr h₀ L h m₂) (el : m₂ (Str.ofString "left") = some (.str (S (wfold (i + 1) its).2.1) tl)) (ei : m₂ (Str.ofString "items") = some (.ref Di)) (et : m₂ (Str.ofString "text") = some (.str (S (wfold i its).2.1) tt)) (hb : AllBare s'.gens) (ho : s'.os = s₁.os) (hs : s'.heap = h) :
    ∃ m₂ nw₂, Fr h₀ L s'.heap m₂ ∧ News h₀ L s'.heap ((I9, rI) :: nw₂) ∧ (∀ p ∈ nw₂, p.1 ≠ I9) ∧ RJ its Di base9 s₁ (i + 1) m₂ nw₂ s' := by
  subst hs
  have hcI : c' ≠ I9 := ne_code N h3 h2 hd hv (fun us' e t => by rw [hrI] at e; cases e; exact hus t)
  have hc1 : c' ≠ 123 := ne_code N h1 h2 hd hv (fun us' e t => by cases e; intro q; cases q)
  refine ⟨m₂, (123, tabObj #[rawInt (109 : Nat), rawInt (4 : Nat), .ref c']) :: (c', oc) :: rest, F, news_sub N fun q hq => ?_, fun p hp => ?_, tl, _, (c', oc) :: rest, el, ei, fun _ => ⟨tt, by rw [Nat.add_sub_cancel]; exact et⟩, hb, ho, rfl, .inr ⟨c', oc, vs, tq, rfl, List.mem_cons_self .., hd, hv⟩, fun q hq => List.mem_cons_of_mem _ (hsub q hq), fun p hp => ?_⟩
  · rcases List.mem_cons.mp hq with e | hq
    · rw [e]; exact h3
    rcases List.mem_cons.mp hq with e | hq
    · rw [e]; exact h1
    rcases List.mem_cons.mp hq with e | hq
    · rw [e]; exact h2
    · exact h4 q hq
  · rcases List.mem_cons.mp hp with e | hp
    · rw [e]; exact hI123
    rcases List.mem_cons.mp hp with e | hp
    · rw [e]; exact hcI
    · exact hnI p hp
  · rcases List.mem_cons.mp hp with e | hp
    · rw [e]; exact hc1
    · exact hn p hp
end Mine
end

section
open PySem PySem.W PyProof.Rows
set_option Elab.async false
set_option maxRecDepth 100000
set_option maxHeartbeats 8000000
namespace Mine
open_top hd for PySem.Challenge.rw_tl0004_01
end Mine
end

section
open PySem PySem.W PyProof.Rows PySem.Calls PySem.Spec
set_option Elab.async false
set_option maxRecDepth 100000
set_option maxHeartbeats 4000000
namespace Mine


section

theorem port_all {prog : Program} {w : World} {mg mb : Str → Option Value} {mean : ExcName → Option Value} {p : Program} {loose : List Str} {n : Int}
   (l : List Nat) (t : Tok) (hl : l.length ≤ 600) (hlen : (S l).length ≤ 1000) (ha : Alph l) (hi : 34 ∉ l → 92 ∉ l → PySem.intText? (S l) = some n)
   (cn : Str) (nms : List (Str × NameKind)) (ig ic : Bool) (mr : List (Str × Const)) (a : Addr) (ccd : Value) (base h₀ : Heap) (L : Addr) (m : Str → Option Value) (news : List (Addr × Obj)) (s : Shared) (Q E : Value → Shared → Prop)
   (B : Below callerA base [] h₀) (F : Fr h₀ L s.heap m) (X : (hd.heap_39 w.params).In h₀) (N : News h₀ L s.heap news) (T : Top p loose mean mg mb h₀) (XB : (hd.heap_39 w.params).In base) (TB : Top p loose mean mg mb base)
   (hmany : 34 ∈ l → ∀ t h' tk', Fr h₀ L h' m → News h₀ L h' news → Q (.str "marks" t) { s with heap := h', toks := tk' })
   (hback : 34 ∉ l → 92 ∈ l → ∀ t h' tk', Fr h₀ L h' m → News h₀ L h' news → Q (.str "backslashes" t) { s with heap := h', toks := tk' })
   (hnum : 34 ∉ l → 92 ∉ l → ∀ D t₁ t₂ h' tk', Fr h₀ L h' m → News h₀ L h' ((D, (⟨.type "tuple", none, .seq #[.str "peer" t₁, .int n t₂] 0, #[]⟩ : Obj)) :: news) → Q (.ref D) { s with heap := h', toks := tk' }) :
   wpC (model prog w) (callerA.deeper (envOf cn ⟨.function, nms, ig, ic, mr⟩ L a ccd)) (call (.ref 135) [.str (S l) t]) Q E s := by
  refine wpC_call ?_
  (refine' C_defS0 ?k1 ?k2 ?k3 ?k4 ?k5 ?kA ?k6 ?k7 ?k8 ?k9 ?kB ?_ ?cK ?c2 ?c3 ?c4 ?c5; (case kA => exact rfl); (case k2 => k_asm); (case k1 => k_asm); (case k3 => k_asm); (case k4 => k_asm); (case k5 => k_asm); (case k6 => k_is); (case k7 => k_is); (case k8 => k_room); (case k9 => exact BindsTo.of_eq rfl); (case kB => exact locs rfl); (case cK => exact rfl); (case c2 => exact rfl); (case c3 => exact rfl); (case c4 => exact rfl); (case c5 => decide); k_whole; intro g' L' h' FG' F' N' B' X' T' D'; (try dsimp only); (try k_lift B'); (try k_fold))
  refine C_execs_cons (C_Try_except ?_)
  refine C_execs_cons (C_Return (C_Call_Name ?_))
  walk1
  try dsimp only
  refine C_callWith_K (K := hd.heap_39 w.params) (by k_is) ?_
  repeat' (first | ((with_reducible show wpAny _ _ (call (Value.type "int") _ _) _ _ _); (refine KIN.call_text (by assumption) (Nat.le_trans (by assumption : List.length _ ≤ 600) (by decide)) ?_)) | ((with_reducible show wpAny _ _ (call (Value.builtin "len") _ _) _ _ _); ((with_reducible rename _ ≠ 5 ∧ _ ≤ 2000 => hne); (refine my_len (i := (List.length _ : Nat)) (by k_asm) (List.Mem.head _) (by simp only [strValues, List.length_map]; rfl) (by have := hne.2; omega) ?_))) | ((with_reducible show wpAny _ _ (call (Value.builtin "str.split") _ _) _ _ _); (refine KSpl.split1 (by k_asm) (by k_asm) (by decide) ?_ (by rw [F6, F0s]; simp only [List.length_cons, List.length_append, List.length_nil, sizeLine]; omega); intro _ _ _ _ e' a' _ N' _; (by_cases hq9 : 34 ∈ l <;> first | ((replace e' := F8 (by assumption) e'); (kspl_open e'); (simp only [strValues, List.map_cons, List.map_nil] at N' a')) | (have hne := F7 (by assumption) (by assumption) e')))) | ((refine ite_neg (by with_reducible rw [F1]; exact Bool.false_ne_true) ?_)) | ((with_reducible show wpAny _ _ (subscriptTail (PySem.Expr.Name _ _) _ (Value.str _ _) (Value.int _ _)) _ _ _); (refine my_item (y := ⟨#[34]⟩) (F4 ?e) (by rw [F0]; omega) (by omega) (by rw [F0]; omega) ?_; (case e => omega))) | ((with_reducible show wpAny _ _ (call (Value.builtin "str.find") _ _) _ _ _); (refine my_find3 (F3 (by assumption)) ?_)) | ((with_reducible show wpAny _ _ (call (Value.builtin "str.find") _ _) _ _ _); (refine my_find (F2 _) ?_)) | (k_unfold; (try dsimp only)) | (k_end; wrow_close) | walk1 | (dsimp only; walk1) | (leave1; try dsimp only) | fail "no step")
  refine wpC_call ?_
  (refine' C_def ?k1 ?k2 ?k3 ?k4 ?k5 ?kA ?kF ?kK ?k6 ?k7 ?k8 ?k9 ?kB ?_ ?c2 ?c3 ?c4 ?c5; (case kA => exact rfl); (case kF => exact rfl); (case kK => exact rfl); (case k2 => k_asm); (case k1 => k_asm); (case k3 => k_asm); (case k4 => k_asm); (case k5 => k_asm); (case k6 => k_is); (case k7 => k_is); (case k8 => k_room); (case k9 => exact BindsTo.of_eq rfl); (case kB => exact locs rfl); (case c2 => exact rfl); (case c3 => exact rfl); (case c4 => exact rfl); (case c5 => decide); k_whole; intro g' L' h' FG' F' N' B' X' T'; (try dsimp only); (try k_lift B'); (try k_fold))
  refine C_prefix (xs := [_, _, _, _, _, _, _, _, _]) (ys := [_, _]) ?_
  intro P hP
  repeat' (first | ((with_reducible show wpAny _ _ (call (Value.type "int") _ _) _ _ _); (refine KIN.call_text (by assumption) (Nat.le_trans (by assumption : List.length _ ≤ 600) (by decide)) ?_)) | ((with_reducible show wpAny _ _ (call (Value.builtin "len") _ _) _ _ _); ((with_reducible rename _ ≠ 5 ∧ _ ≤ 2000 => hne); (refine my_len (i := (List.length _ : Nat)) (by k_asm) (List.Mem.head _) (by simp only [strValues, List.length_map]; rfl) (by have := hne.2; omega) ?_))) | ((with_reducible show wpAny _ _ (call (Value.builtin "str.split") _ _) _ _ _); (refine KSpl.split1 (by k_asm) (by k_asm) (by decide) ?_ (by rw [F6, F0s]; simp only [List.length_cons, List.length_append, List.length_nil, sizeLine]; omega); intro _ _ _ _ e' a' _ N' _; (by_cases hq9 : 34 ∈ l <;> first | ((replace e' := F8 (by assumption) e'); (kspl_open e'); (simp only [strValues, List.map_cons, List.map_nil] at N' a')) | (have hne := F7 (by assumption) (by assumption) e')))) | ((refine ite_neg (by with_reducible rw [F1]; exact Bool.false_ne_true) ?_)) | ((with_reducible show wpAny _ _ (subscriptTail (PySem.Expr.Name _ _) _ (Value.str _ _) (Value.int _ _)) _ _ _); (refine my_item (y := ⟨#[34]⟩) (F4 ?e) (by rw [F0]; omega) (by omega) (by rw [F0]; omega) ?_; (case e => omega))) | ((with_reducible show wpAny _ _ (call (Value.builtin "str.find") _ _) _ _ _); (refine my_find3 (F3 (by assumption)) ?_)) | ((with_reducible show wpAny _ _ (call (Value.builtin "str.find") _ _) _ _ _); (refine my_find (F2 _) ?_)) | (k_unfold; (try dsimp only)) | (k_end; wrow_close) | walk1 | (dsimp only; walk1) | (leave1; try dsimp only) | fail "no step")
  all_goals (first | exact hmany (by assumption) _ _ _ (by assumption) (news_sub (by assumption) (by intro q hq; simp only [List.mem_cons, hq, or_true])) | (exfalso; omega) | refine hP _ ?_)
  dsimp only
  clear hP hmany
  refine C_execs_cons (C_Assign_Name (C_Call_Name ?_))
  walk1
  refine C_callWith_type ?_
  repeat' (first | ((with_reducible show wpAny _ _ (call (Value.type "int") _ _) _ _ _); (refine KIN.call_text (by assumption) (Nat.le_trans (by assumption : List.length _ ≤ 600) (by decide)) ?_)) | ((with_reducible show wpAny _ _ (call (Value.builtin "len") _ _) _ _ _); ((with_reducible rename _ ≠ 5 ∧ _ ≤ 2000 => hne); (refine my_len (i := (List.length _ : Nat)) (by k_asm) (List.Mem.head _) (by simp only [strValues, List.length_map]; rfl) (by have := hne.2; omega) ?_))) | ((with_reducible show wpAny _ _ (call (Value.builtin "str.split") _ _) _ _ _); (refine KSpl.split1 (by k_asm) (by k_asm) (by decide) ?_ (by rw [F6, F0s]; simp only [List.length_cons, List.length_append, List.length_nil, sizeLine]; omega); intro _ _ _ _ e' a' _ N' _; (by_cases hq9 : 34 ∈ l <;> first | ((replace e' := F8 (by assumption) e'); (kspl_open e'); (simp only [strValues, List.map_cons, List.map_nil] at N' a')) | (have hne := F7 (by assumption) (by assumption) e')))) | ((refine ite_neg (by with_reducible rw [F1]; exact Bool.false_ne_true) ?_)) | ((with_reducible show wpAny _ _ (subscriptTail (PySem.Expr.Name _ _) _ (Value.str _ _) (Value.int _ _)) _ _ _); (refine my_item (y := ⟨#[34]⟩) (F4 ?e) (by rw [F0]; omega) (by omega) (by rw [F0]; omega) ?_; (case e => omega))) | ((with_reducible show wpAny _ _ (call (Value.builtin "str.find") _ _) _ _ _); (refine my_find3 (F3 (by assumption)) ?_)) | ((with_reducible show wpAny _ _ (call (Value.builtin "str.find") _ _) _ _ _); (refine my_find (F2 _) ?_)) | (k_unfold; (try dsimp only)) | (k_end; wrow_close) | walk1 | (dsimp only; walk1) | (leave1; try dsimp only) | fail "no step")
  by_cases hb : 92 ∈ l
  · clear hnum
    refine C_int_refuses rfl (by show l.length ≤ 640; omega) (fun c hc => Nat.lt_of_le_of_lt (alph_le ha c hc) (by decide)) (read_bad ha hb) ?_
    intro h' e' msg hm' tk'
    repeat' (first | ((with_reducible show wpAny _ _ (call (Value.type "int") _ _) _ _ _); (refine KIN.call_text (by assumption) (Nat.le_trans (by assumption : List.length _ ≤ 600) (by decide)) ?_)) | ((with_reducible show wpAny _ _ (call (Value.builtin "len") _ _) _ _ _); ((with_reducible rename _ ≠ 5 ∧ _ ≤ 2000 => hne); (refine my_len (i := (List.length _ : Nat)) (by k_asm) (List.Mem.head _) (by simp only [strValues, List.length_map]; rfl) (by have := hne.2; omega) ?_))) | ((with_reducible show wpAny _ _ (call (Value.builtin "str.split") _ _) _ _ _); (refine KSpl.split1 (by k_asm) (by k_asm) (by decide) ?_ (by rw [F6, F0s]; simp only [List.length_cons, List.length_append, List.length_nil, sizeLine]; omega); intro _ _ _ _ e' a' _ N' _; (by_cases hq9 : 34 ∈ l <;> first | ((replace e' := F8 (by assumption) e'); (kspl_open e'); (simp only [strValues, List.map_cons, List.map_nil] at N' a')) | (have hne := F7 (by assumption) (by assumption) e')))) | ((refine ite_neg (by with_reducible rw [F1]; exact Bool.false_ne_true) ?_)) | ((with_reducible show wpAny _ _ (subscriptTail (PySem.Expr.Name _ _) _ (Value.str _ _) (Value.int _ _)) _ _ _); (refine my_item (y := ⟨#[34]⟩) (F4 ?e) (by rw [F0]; omega) (by omega) (by rw [F0]; omega) ?_; (case e => omega))) | ((with_reducible show wpAny _ _ (call (Value.builtin "str.find") _ _) _ _ _); (refine my_find3 (F3 (by assumption)) ?_)) | ((with_reducible show wpAny _ _ (call (Value.builtin "str.find") _ _) _ _ _); (refine my_find (F2 _) ?_)) | (k_unfold; (try dsimp only)) | (k_end; wrow_close) | walk1 | (dsimp only; walk1) | (leave1; try dsimp only) | fail "no step")
    all_goals exact hback (by assumption) hb _ _ _ (by assumption) (news_sub (by assumption) (by intro q hq; simp only [List.mem_cons, hq, or_true]))
  · clear hback
    refine wpC_of (KIN.call_text (hi (by assumption) hb) (Nat.le_trans hl (by decide)) ?_)
    repeat' (first | ((with_reducible show wpAny _ _ (call (Value.type "int") _ _) _ _ _); (refine KIN.call_text (by assumption) (Nat.le_trans (by assumption : List.length _ ≤ 600) (by decide)) ?_)) | ((with_reducible show wpAny _ _ (call (Value.builtin "len") _ _) _ _ _); ((with_reducible rename _ ≠ 5 ∧ _ ≤ 2000 => hne); (refine my_len (i := (List.length _ : Nat)) (by k_asm) (List.Mem.head _) (by simp only [strValues, List.length_map]; rfl) (by have := hne.2; omega) ?_))) | ((with_reducible show wpAny _ _ (call (Value.builtin "str.split") _ _) _ _ _); (refine KSpl.split1 (by k_asm) (by k_asm) (by decide) ?_ (by rw [F6, F0s]; simp only [List.length_cons, List.length_append, List.length_nil, sizeLine]; omega); intro _ _ _ _ e' a' _ N' _; (by_cases hq9 : 34 ∈ l <;> first | ((replace e' := F8 (by assumption) e'); (kspl_open e'); (simp only [strValues, List.map_cons, List.map_nil] at N' a')) | (have hne := F7 (by assumption) (by assumption) e')))) | ((refine ite_neg (by with_reducible rw [F1]; exact Bool.false_ne_true) ?_)) | ((with_reducible show wpAny _ _ (subscriptTail (PySem.Expr.Name _ _) _ (Value.str _ _) (Value.int _ _)) _ _ _); (refine my_item (y := ⟨#[34]⟩) (F4 ?e) (by rw [F0]; omega) (by omega) (by rw [F0]; omega) ?_; (case e => omega))) | ((with_reducible show wpAny _ _ (call (Value.builtin "str.find") _ _) _ _ _); (refine my_find3 (F3 (by assumption)) ?_)) | ((with_reducible show wpAny _ _ (call (Value.builtin "str.find") _ _) _ _ _); (refine my_find (F2 _) ?_)) | (k_unfold; (try dsimp only)) | (k_end; wrow_close) | walk1 | (dsimp only; walk1) | (leave1; try dsimp only) | fail "no step")
    refine wpC_of ?_
    repeat' (first | ((with_reducible show wpAny _ _ (call (Value.type "int") _ _) _ _ _); (refine KIN.call_text (by assumption) (Nat.le_trans (by assumption : List.length _ ≤ 600) (by decide)) ?_)) | ((with_reducible show wpAny _ _ (call (Value.builtin "len") _ _) _ _ _); ((with_reducible rename _ ≠ 5 ∧ _ ≤ 2000 => hne); (refine my_len (i := (List.length _ : Nat)) (by k_asm) (List.Mem.head _) (by simp only [strValues, List.length_map]; rfl) (by have := hne.2; omega) ?_))) | ((with_reducible show wpAny _ _ (call (Value.builtin "str.split") _ _) _ _ _); (refine KSpl.split1 (by k_asm) (by k_asm) (by decide) ?_ (by rw [F6, F0s]; simp only [List.length_cons, List.length_append, List.length_nil, sizeLine]; omega); intro _ _ _ _ e' a' _ N' _; (by_cases hq9 : 34 ∈ l <;> first | ((replace e' := F8 (by assumption) e'); (kspl_open e'); (simp only [strValues, List.map_cons, List.map_nil] at N' a')) | (have hne := F7 (by assumption) (by assumption) e')))) | ((refine ite_neg (by with_reducible rw [F1]; exact Bool.false_ne_true) ?_)) | ((with_reducible show wpAny _ _ (subscriptTail (PySem.Expr.Name _ _) _ (Value.str _ _) (Value.int _ _)) _ _ _); (refine my_item (y := ⟨#[34]⟩) (F4 ?e) (by rw [F0]; omega) (by omega) (by rw [F0]; omega) ?_; (case e => omega))) | ((with_reducible show wpAny _ _ (call (Value.builtin "str.find") _ _) _ _ _); (refine my_find3 (F3 (by assumption)) ?_)) | ((with_reducible show wpAny _ _ (call (Value.builtin "str.find") _ _) _ _ _); (refine my_find (F2 _) ?_)) | (k_unfold; (try dsimp only)) | (k_end; wrow_close) | walk1 | (dsimp only; walk1) | (leave1; try dsimp only) | fail "no step")
    all_goals exact hnum (by assumption) hb _ _ _ _ _ (by assumption) (news_sub (by assumption) (fun q hq9 => (List.mem_cons.mp hq9).elim (fun e9 => by rw [e9]; exact List.mem_cons_self ..) (fun z => by simp only [List.mem_cons, z, or_true])))
end
end Mine
end

section
open PySem PySem.W PyProof.Rows PySem.Calls PySem.Spec
set_option Elab.async false
set_option maxRecDepth 100000
set_option maxHeartbeats 4000000
namespace Mine
section

theorem due_all {prog : Program} {w : World} {mg mb : Str → Option Value} {mean : ExcName → Option Value} {p : Program} {loose : List Str} 
   (l : List Nat) (t : Tok) (hl : l.length ≤ 600) (hlen : (S l).length ≤ 1000) (ha : Alph l)
   (cn : Str) (nms : List (Str × NameKind)) (ig ic : Bool) (mr : List (Str × Const)) (a : Addr) (ccd : Value) (base h₀ : Heap) (L : Addr) (m : Str → Option Value) (news : List (Addr × Obj)) (s : Shared) (Q E : Value → Shared → Prop)
   (B : Below callerA base [] h₀) (F : Fr h₀ L s.heap m) (X : (hd.heap_39 w.params).In h₀) (N : News h₀ L s.heap news) (T : Top p loose mean mg mb h₀) (XB : (hd.heap_39 w.params).In base) (TB : Top p loose mean mg mb base)
   (hmarks : 34 ∈ l → ∀ t h' tk', Fr h₀ L h' m → News h₀ L h' news → Q (.str "marks" t) { s with heap := h', toks := tk' })
   (hback : 34 ∉ l → 92 ∈ l → ∀ t h' tk', Fr h₀ L h' m → News h₀ L h' news → Q (.str "backslashes" t) { s with heap := h', toks := tk' })
   (hnum : 34 ∉ l → 92 ∉ l → ∀ D t₁ t₂ h' tk', Fr h₀ L h' m → News h₀ L h' ((D, (⟨.type "tuple", none, .seq #[.str "peer" t₁, .int ((PySem.NumText.digitsVal l : Nat) : Int) t₂] 0, #[]⟩ : Obj)) :: news) → Q (.ref D) { s with heap := h', toks := tk' }) :
   wpAny (model prog w) (callerA.deeper (envOf cn ⟨.function, nms, ig, ic, mr⟩ L a ccd)) (call (.ref 142) [.str (S l) t]) Q E s := by
  k_steps
  all_goals first
    | exact hmarks (occ_q0 (by assumption)) _ _ _ (by assumption) (news_sub (by assumption) (by intro q hq; simp only [List.mem_cons, hq, or_true]))
    | exact hback (occ_q1 (by assumption)) (occ_b0 (by assumption)) _ _ _ (by assumption) (news_sub (by assumption) (by intro q hq; simp only [List.mem_cons, hq, or_true]))
    | exact absurd (by assumption) (due_no (alph_digits ha (occ_q1 (by assumption)) (occ_b1 (by assumption))) (by assumption))
    | (have hd1 := due_val (alph_digits ha (occ_q1 (by assumption)) (occ_b1 (by assumption)))
       (rename News h₀ L _ _ => kN9)
       rw [hd1] at kN9
       exact hnum (occ_q1 (by assumption)) (occ_b1 (by assumption)) _ _ _ _ _ (by assumption) (news_sub kN9 (fun q hq9 => (List.mem_cons.mp hq9).elim (fun e9 => by rw [e9]; exact List.mem_cons_self ..) (fun z => by simp only [List.mem_cons, z, or_true]))))

end
end Mine
end

section
open PySem PySem.W PyProof.Rows PySem.Calls PySem.Spec
set_option Elab.async false
set_option maxRecDepth 100000
set_option maxHeartbeats 4000000
namespace Mine

section
variable {M : Model} {A : Around} {env : Env} {E : Value → Shared → Prop} {s : Shared}
theorem A_mid {xs ys : List Stmt} {Q : Flow → Shared → Prop} {R : Shared → Prop} (h : wpAny M A (execs xs env) (fun f s' => f = .next ∧ R s') E s) (h2 : ∀ s', R s' → wpAny M A (execs ys env) Q E s') :
    wpAny M A (execs (xs ++ ys) env) Q E s := by
  intro G p hG
  have h1 := h G p hG
  clear h
  induction xs generalizing p s with
  | nil => exact h2 _ h1.2 G p hG
  | cons st rest ih =>
    rw [List.cons_append, execs_cons, Sem.wp_bind']
    rw [execs_cons, Sem.wp_bind'] at h1
    refine Sem.wp_mono M G _ (fun f p' s' h' => ?_) (fun _ _ _ x => x) _ _ h1
    cases f with
    | next => exact ih p' h'
    | _ => cases h'.1
def LMid (h₀ : Heap) (L : Addr) (m₃ : Str → Option Value) (own news : List (Addr × Obj)) (Dl : Addr) (bs : List Bool) (s₁ s' : Shared) : Prop :=
  ∃ h tk vs, s' = { s₁ with heap := h, toks := tk } ∧ Fr h₀ L h m₃ ∧ News h₀ L h ((Dl, W.listOf vs.toArray 0) :: (own ++ news)) ∧ LSm.BoolsAre vs bs
theorem A_mid3 {h₀ : Heap} {L Dl : Addr} {m₃ : Str → Option Value} {o : Obj} {own news : List (Addr × Obj)} {xs ys : List Stmt} {Q : Flow → Shared → Prop} (u1 u2 : Value) (bs : List Bool) (F : Fr h₀ L s.heap m₃) (N : News h₀ L s.heap ((Dl, o) :: (own ++ news)))
    (h : wpAny M A (execs xs env) (fun f s' => f = .next ∧ LMid h₀ L (fun y => if y = Str.ofString "mark" then some u2 else if y = Str.ofString "shown" then some u1 else m₃ y) own news Dl bs s s') E s)
    (h2 : ∀ s', LMid h₀ L (fun y => if y = Str.ofString "mark" then some u2 else if y = Str.ofString "shown" then some u1 else m₃ y) own news Dl bs s s' → wpAny M A (execs ys env) Q E s') : wpAny M A (execs (xs ++ ys) env) Q E s := A_mid h h2
theorem lmid_of {h₀ h : Heap} {L Dl : Addr} {m₃ : Str → Option Value} {own news newsX : List (Addr × Obj)} {bs bs' : List Bool} {vs : List Value} {s₁ : Shared} {tk : Nat} (F : Fr h₀ L h m₃) (N : News h₀ L h newsX) (hb : LSm.BoolsAre vs bs)
    (hs : ∀ q ∈ (Dl, W.listOf vs.toArray 0) :: (own ++ news), q ∈ newsX) (e : bs' = bs) : LMid h₀ L m₃ own news Dl bs' s₁ { s₁ with heap := h, toks := tk } := by
  subst e
  exact ⟨h, tk, vs, rfl, F, fun q hq => N q (hs q hq), hb⟩
end
section

theorem walk_all {prog : Program} {w : World} {mg mb : Str → Option Value} {mean : ExcName → Option Value} {p : Program} {loose : List Str} 
   (ax : Addr) (items : List Value) (nI : Nat) (its : List (Nat × Nat)) (turn : Nat) (t : Tok) (hturn : turn < 5)
   (cn : Str) (nms : List (Str × NameKind)) (ig ic : Bool) (mr : List (Str × Const)) (a : Addr) (ccd : Value) (base h₀ : Heap) (L : Addr) (m : Str → Option Value) (news : List (Addr × Obj)) (s : Shared) (Q E : Value → Shared → Prop)
   (B : Below callerA base [] h₀) (F : Fr h₀ L s.heap m) (X : (hd.heap_39 w.params).In h₀) (N : News h₀ L s.heap news) (T : Top p loose mean mg mb h₀) (XB : (hd.heap_39 w.params).In base) (TB : Top p loose mean mg mb base)
   (hax : (ax, W.listOf items.toArray nI) ∈ news) (hit : ∀ (i : Nat) (v : Value), items[i]? = some v → ∃ T t1 t2 sg dp, its[i]? = some (sg, dp) ∧ v = Value.ref T ∧ (T, tup [.str (S [sg]) t1, .int (dp : Nat) t2]) ∈ news)
   (hsz : its.length = items.length) (hlen : its.length ≤ 13) (hdp : ∀ it ∈ its, it.2 ≤ 3) (hsg : ∀ it ∈ its, it.1 = 34 ∨ (48 ≤ it.1 ∧ it.1 ≤ 57))
   (hret : ∀ D t1 t2 t3 h' tk', Fr h₀ L h' m → News h₀ L h' ((D, tup [.str (S (wfold turn its).2.1) t1, .str (S (wfold turn its).2.2.1) t2, .str (S (wfold turn its).2.2.2) t3]) :: news) → Q (.ref D) { s with heap := h', toks := tk' }) :
   wpAny (model prog w) (callerA.deeper (envOf cn ⟨.function, nms, ig, ic, mr⟩ L a ccd)) (call (.ref 149) [.ref ax, .int (turn : Nat) t]) Q E s := by
  repeat' (first | ((with_reducible show wpAny _ _ (setItem (Value.ref _) (Value.int _ _) _) _ _ _); (refine my_set (by k_asm) (by k_asm) (by assumption) (by assumption) (by assumption) (by assumption) (by intro _ hq; simp only [List.mem_cons] at hq ⊢; exact hq.elim (fun e => by simp only [e, true_or, or_true]) (fun z => by simp only [z, or_true])) ?_; intro _ _ _ _ _)) | ((with_reducible show wpAny _ _ (inplaceOp .Add (Value.str _ _) (Value.str _ _)) _ _ _); (refine my_iadd ?_ ?_; (first | (simp only [List.length_append, List.length_replicate, List.length_cons, List.length_nil]; omega) | fail "my_add"); intro _ _)) | ((with_reducible show wpAny _ _ (binaryOp .Add (Value.str _ _) (Value.str _ _)) _ _ _); (refine my_add ?_ ?_; (first | (simp only [List.length_append, List.length_replicate, List.length_cons, List.length_nil]; omega) | fail "my_add"); intro _ _)) | ((with_reducible show wpAny _ _ (binaryOp .Mult (Value.str _ _) (Value.int _ _)) _ _ _); (refine my_mul (pow_eq (by assumption)).1 (pow_eq (by assumption)).2 ?_; intro _ _)) | ((with_reducible show wpAny _ _ (compareOp .NotIn (Value.bool _) (Value.ref _)) _ _ _); (refine my_notin (by k_asm) (by k_mem) (by assumption) ?_)) | ((with_reducible show wpAny _ _ (subscriptTail (PySem.Expr.Name _ _) _ (Value.ref _) (Value.ref _)) _ _ _); (refine my_slice (by k_asm) (by k_asm) (by k_mem) (by assumption) (by assumption) ?_ (by with_unfolding_all rfl) (by kmk_pure); intro _ _ _ _ l1 _; (try k_lt l1))) | ((with_reducible show wpAny _ _ (binaryOp .Mult (Value.ref _) (Value.int _ _)) _ _ _); ((refine kbo_mul (bs := [false]) (by k_asm) (by k_asm) (by is_list) (by kbo_some) (by decide) (by decide) (by decide) ?_); intro _ _ _ _ l1 _ _ _ _ _ _ _; (try k_lt l1))) | (k_unfold; (try dsimp only)) | (k_end; wrow_close) | walk1 | (dsimp only; walk1) | (leave1; try dsimp only) | fail "no step")
  refine wpAny_For ?_ (by intro _; rfl)
  walk1
  refine wpAny_pyIter_list (items := items.toArray) (isList_of (n := nI) (by k_asm) (by simp only [List.mem_cons, hax, or_true])) ?_
  with_unfolding_all refine forLoop_walk rfl rfl rfl rfl (by k_asm) (by rfl) (by rfl) (by rfl) (by rfl) (by rfl) (by k_asm) (by assumption) (by k_mem) (by intro q hq; simp only [List.mem_cons, hq, or_true]) (by assumption) hax hit hsz ?step ?hR
  case step =>
    rintro i sg dp ts td t1 t2 t3 vs m₁ s₁ own ⟨h', tk', rfl⟩ hi hb F' N' hne
    have hdp' : dp ≤ 3 := hdp _ (List.mem_of_getElem? hi)
    have hsg' : sg = 34 ∨ (48 ≤ sg ∧ sg ≤ 57) := hsg _ (List.mem_of_getElem? hi)
    have hl5 : (wfold turn (its.take i)).1.length = 5 := wfold_lamps turn _ wInit
    have htk : ∀ it ∈ its.take i, it.2 ≤ 3 := fun it h => hdp it (List.mem_of_mem_take h)
    have hw8 := wfold_text (turn := turn) (its.take i) wInit htk
    have hti : (its.take i).length ≤ 13 := Nat.le_trans (List.length_take_le' ..) hlen
    change (wfold turn (its.take i)).2.1.length ≤ 0 + _ ∧ (wfold turn (its.take i)).2.2.1.length ≤ 0 + _ ∧ (wfold turn (its.take i)).2.2.2.length ≤ 0 + _ at hw8
    generalize hst : wfold turn (its.take i) = st at *
    obtain ⟨lamps, text, kept, hold⟩ := st
    dsimp only at hl5 hw8 hb F' ⊢
    have hl100 : lamps.length ≤ 100 := by omega
    have b1 : text.length ≤ 104 := by omega
    have b2 : kept.length ≤ 104 := by omega
    have b3 : hold.length ≤ 104 := by omega
    have hp7 := (pow_eq (turn := turn) hdp').2
    clear hw8 hti htk hst
    clear hit hret hdp hsg
    refine A_mid3 (xs := [_, _, _]) (ys := [_]) (.bool (!(lamps.take turn).any fun b => b)) (.bool (S [sg] == Str.ofString "\"")) (lampsOf lamps (sg, dp)) F' N' ?_ ?_
    · repeat' (first | ((with_reducible show wpAny _ _ (setItem (Value.ref _) (Value.int _ _) _) _ _ _); (refine my_set (by k_asm) (by k_asm) (by assumption) (by assumption) (by assumption) (by assumption) (by intro _ hq; simp only [List.mem_cons] at hq ⊢; exact hq.elim (fun e => by simp only [e, true_or, or_true]) (fun z => by simp only [z, or_true])) ?_; intro _ _ _ _ _)) | ((with_reducible show wpAny _ _ (inplaceOp .Add (Value.str _ _) (Value.str _ _)) _ _ _); (refine my_iadd ?_ ?_; (first | (simp only [List.length_append, List.length_replicate, List.length_cons, List.length_nil]; omega) | fail "my_add"); intro _ _)) | ((with_reducible show wpAny _ _ (binaryOp .Add (Value.str _ _) (Value.str _ _)) _ _ _); (refine my_add ?_ ?_; (first | (simp only [List.length_append, List.length_replicate, List.length_cons, List.length_nil]; omega) | fail "my_add"); intro _ _)) | ((with_reducible show wpAny _ _ (binaryOp .Mult (Value.str _ _) (Value.int _ _)) _ _ _); (refine my_mul (pow_eq (by assumption)).1 (pow_eq (by assumption)).2 ?_; intro _ _)) | ((with_reducible show wpAny _ _ (compareOp .NotIn (Value.bool _) (Value.ref _)) _ _ _); (refine my_notin (by k_asm) (by k_mem) (by assumption) ?_)) | ((with_reducible show wpAny _ _ (subscriptTail (PySem.Expr.Name _ _) _ (Value.ref _) (Value.ref _)) _ _ _); (refine my_slice (by k_asm) (by k_asm) (by k_mem) (by assumption) (by assumption) ?_ (by with_unfolding_all rfl) (by kmk_pure); intro _ _ _ _ l1 _; (try k_lt l1))) | ((with_reducible show wpAny _ _ (binaryOp .Mult (Value.ref _) (Value.int _ _)) _ _ _); ((refine kbo_mul (bs := [false]) (by k_asm) (by k_asm) (by is_list) (by kbo_some) (by decide) (by decide) (by decide) ?_); intro _ _ _ _ l1 _ _ _ _ _ _ _; (try k_lt l1))) | (k_unfold; (try dsimp only)) | (k_end; wrow_close) | walk1 | (dsimp only; walk1) | (leave1; try dsimp only) | fail "no step")
      all_goals (
        refine lmid_of (by k_asm) (by k_asm) (by first | exact (by assumption : LSm.BoolsAre (List.set _ _ _) (List.set _ _ _)) | exact hb) (by intro q hq; simp only [List.mem_cons] at hq ⊢; exact hq.elim (fun e => by simp only [e, true_or, or_true]) (fun z => by simp only [z, or_true])) ?_
        first
          | exact lA (dp := dp) (mk1 (by assumption)) (by assumption)
          | exact lB (dp := dp) (mk1 (by assumption)) (by assumption)
          | exact lC (lamps := lamps) (dp := dp) (mk0 (by assumption)))
    · clear F' N'
      have hl59 : (lampsOf lamps (sg, dp)).length = 5 := (lampsOf_len _ _).trans hl5
      generalize hL9 : lampsOf lamps (sg, dp) = l9 at hl59
      rintro s' ⟨h', tk', vs', rfl, F', N', hb'⟩
      dsimp only at F' N' ⊢
      clear hb hl5 hl100
      have hl100 : l9.length ≤ 100 := by omega
      repeat' (first | ((with_reducible show wpAny _ _ (setItem (Value.ref _) (Value.int _ _) _) _ _ _); (refine my_set (by k_asm) (by k_asm) (by assumption) (by assumption) (by assumption) (by assumption) (by intro _ hq; simp only [List.mem_cons] at hq ⊢; exact hq.elim (fun e => by simp only [e, true_or, or_true]) (fun z => by simp only [z, or_true])) ?_; intro _ _ _ _ _)) | ((with_reducible show wpAny _ _ (inplaceOp .Add (Value.str _ _) (Value.str _ _)) _ _ _); (refine my_iadd ?_ ?_; (first | (simp only [List.length_append, List.length_replicate, List.length_cons, List.length_nil]; omega) | fail "my_add"); intro _ _)) | ((with_reducible show wpAny _ _ (binaryOp .Add (Value.str _ _) (Value.str _ _)) _ _ _); (refine my_add ?_ ?_; (first | (simp only [List.length_append, List.length_replicate, List.length_cons, List.length_nil]; omega) | fail "my_add"); intro _ _)) | ((with_reducible show wpAny _ _ (binaryOp .Mult (Value.str _ _) (Value.int _ _)) _ _ _); (refine my_mul (pow_eq (by assumption)).1 (pow_eq (by assumption)).2 ?_; intro _ _)) | ((with_reducible show wpAny _ _ (compareOp .NotIn (Value.bool _) (Value.ref _)) _ _ _); (refine my_notin (by k_asm) (by k_mem) (by assumption) ?_)) | ((with_reducible show wpAny _ _ (subscriptTail (PySem.Expr.Name _ _) _ (Value.ref _) (Value.ref _)) _ _ _); (refine my_slice (by k_asm) (by k_asm) (by k_mem) (by assumption) (by assumption) ?_ (by with_unfolding_all rfl) (by kmk_pure); intro _ _ _ _ l1 _; (try k_lt l1))) | ((with_reducible show wpAny _ _ (binaryOp .Mult (Value.ref _) (Value.int _ _)) _ _ _); ((refine kbo_mul (bs := [false]) (by k_asm) (by k_asm) (by is_list) (by kbo_some) (by decide) (by decide) (by decide) ?_); intro _ _ _ _ l1 _ _ _ _ _ _ _; (try k_lt l1))) | (k_unfold; (try dsimp only)) | (k_end; wrow_close) | walk1 | (dsimp only; walk1) | (leave1; try dsimp only) | fail "no step")
      all_goals (
        refine wEnd_of (by k_asm) (by k_asm) (by with_unfolding_all rfl) (by with_unfolding_all rfl) (by with_unfolding_all rfl) (by with_unfolding_all rfl) (by with_unfolding_all rfl) hb' (by intro q hq; simp only [List.mem_cons] at hq ⊢; exact hq.elim (fun e => by simp only [e, true_or, or_true]) (fun z => by simp only [z, or_true])) ?_
        first
          | exact v1 hL9 (by assumption)
          | exact v6 hL9 (mk1 (by assumption)) (by assumption)
          | exact v2 hL9 (by assumption) (mk1 (by assumption)) (by assumption) (by assumption)
          | exact v3 hL9 (by assumption) (mk1 (by assumption)) (by assumption) (by assumption)
          | exact v4 hL9 (by assumption) (.inl ⟨by assumption, by assumption⟩) (by assumption)
          | exact v5 hL9 (by assumption) (.inl ⟨by assumption, by assumption⟩) (by assumption)
          | exact v4 hL9 (by assumption) (.inr (mk0 (by assumption))) (by assumption)
          | exact v5 hL9 (by assumption) (.inr (mk0 (by assumption))) (by assumption))
  case hR =>
    intro h' tk' m' vs t1 t2 t3 F' N' e1 e2 e3
    rw [show m' = (fun y => if y = Str.ofString "text" then some (.str (S (wfold turn its).2.1) t1) else if y = Str.ofString "kept" then some (.str (S (wfold turn its).2.2.1) t2) else if y = Str.ofString "hold" then some (.str (S (wfold turn its).2.2.2) t3) else m' y) from funext fun y => by rw [upd_pt e3, upd_pt e2, upd_pt e1]] at F'
    clear e1 e2 e3
    dsimp only
    repeat' (first | ((with_reducible show wpAny _ _ (setItem (Value.ref _) (Value.int _ _) _) _ _ _); (refine my_set (by k_asm) (by k_asm) (by assumption) (by assumption) (by assumption) (by assumption) (by intro _ hq; simp only [List.mem_cons] at hq ⊢; exact hq.elim (fun e => by simp only [e, true_or, or_true]) (fun z => by simp only [z, or_true])) ?_; intro _ _ _ _ _)) | ((with_reducible show wpAny _ _ (inplaceOp .Add (Value.str _ _) (Value.str _ _)) _ _ _); (refine my_iadd ?_ ?_; (first | (simp only [List.length_append, List.length_replicate, List.length_cons, List.length_nil]; omega) | fail "my_add"); intro _ _)) | ((with_reducible show wpAny _ _ (binaryOp .Add (Value.str _ _) (Value.str _ _)) _ _ _); (refine my_add ?_ ?_; (first | (simp only [List.length_append, List.length_replicate, List.length_cons, List.length_nil]; omega) | fail "my_add"); intro _ _)) | ((with_reducible show wpAny _ _ (binaryOp .Mult (Value.str _ _) (Value.int _ _)) _ _ _); (refine my_mul (pow_eq (by assumption)).1 (pow_eq (by assumption)).2 ?_; intro _ _)) | ((with_reducible show wpAny _ _ (compareOp .NotIn (Value.bool _) (Value.ref _)) _ _ _); (refine my_notin (by k_asm) (by k_mem) (by assumption) ?_)) | ((with_reducible show wpAny _ _ (subscriptTail (PySem.Expr.Name _ _) _ (Value.ref _) (Value.ref _)) _ _ _); (refine my_slice (by k_asm) (by k_asm) (by k_mem) (by assumption) (by assumption) ?_ (by with_unfolding_all rfl) (by kmk_pure); intro _ _ _ _ l1 _; (try k_lt l1))) | ((with_reducible show wpAny _ _ (binaryOp .Mult (Value.ref _) (Value.int _ _)) _ _ _); ((refine kbo_mul (bs := [false]) (by k_asm) (by k_asm) (by is_list) (by kbo_some) (by decide) (by decide) (by decide) ?_); intro _ _ _ _ l1 _ _ _ _ _ _ _; (try k_lt l1))) | (k_unfold; (try dsimp only)) | (k_end; wrow_close) | walk1 | (dsimp only; walk1) | (leave1; try dsimp only) | fail "no step")
    all_goals exact hret _ _ _ _ _ _ (by assumption) (news_sub (by assumption) (fun q hq9 => (List.mem_cons.mp hq9).elim (fun e9 => by rw [e9]; exact List.mem_cons_self ..) (fun z => by simp only [List.mem_cons, z, or_true])))
end
end Mine
end

section
open PySem PySem.W PyProof.Rows PySem.Calls PySem.Spec
set_option Elab.async false
set_option maxRecDepth 100000
set_option maxHeartbeats 4000000
namespace Mine
section

theorem strip_all {prog : Program} {w : World} {mg mb : Str → Option Value} {mean : ExcName → Option Value} {p : Program} {loose : List Str} 
   (l : List Nat) (t : Tok) (hl : l.length ≤ 600) (hlen : (S l).length ≤ 1000) (ha : Alph l)
   (cn : Str) (nms : List (Str × NameKind)) (ig ic : Bool) (mr : List (Str × Const)) (a : Addr) (ccd : Value) (base h₀ : Heap) (L : Addr) (m : Str → Option Value) (news : List (Addr × Obj)) (s : Shared) (Q E : Value → Shared → Prop)
   (B : Below callerA base [] h₀) (F : Fr h₀ L s.heap m) (X : (hd.heap_39 w.params).In h₀) (N : News h₀ L s.heap news) (T : Top p loose mean mg mb h₀) (XB : (hd.heap_39 w.params).In base) (TB : Top p loose mean mg mb base)
   (hg : AllBare s.gens) (hret : ∀ t gs h' tk', AllBare gs → Fr h₀ L h' m → News h₀ L h' news → Q (.str (S (outF false l)) t) { s with heap := h', toks := tk', gens := gs }) :
   wpAny (model prog w) (callerA.deeper (envOf cn ⟨.function, nms, ig, ic, mr⟩ L a ccd)) (call (.ref 77) [.str (S l) t]) Q E s := by
  repeat' (first | ((with_reducible show wpAny _ _ (call (Value.builtin "list.append") _ _) _ _ _); (refine my_append (by k_asm) (by k_asm) (by first | assumption | exact hne9) (by assumption) ?_; intro _ _ _)) | ((with_reducible show wpAny _ _ (binaryOp .Add (Value.str _ _) (Value.str _ _)) _ _ _); (refine my_add92 (by simp only [List.length_cons, List.length_nil]; omega) ?_; intro _ _)) | ((with_reducible show wpAny _ _ (pyIter (Value.ref _)) _ _ _); (refine wpAny_pyIter_enum (by assumption) ?_; intro _)) | ((with_reducible show wpAny _ _ (call (Value.type "enumerate") _ _) _ _ _); (refine my_enum (by k_asm) (by k_asm) (by assumption) ?_; intro _ _ _ _ _ _ _ _ _ _ _)) | (k_unfold; (try dsimp only)) | (k_end; wrow_close) | walk1 | (dsimp only; walk1) | (leave1; try dsimp only) | fail "no step")
  · have hq := occ_q1 (by assumption)
    rw [← out_free l false hq]
    exact hret _ _ _ _ hg (by assumption) (news_sub (by assumption) (fun q hq => hq))
  refine wpAny_For ?_ (by intro _; rfl)
  repeat' (first | ((with_reducible show wpAny _ _ (call (Value.builtin "list.append") _ _) _ _ _); (refine my_append (by k_asm) (by k_asm) (by first | assumption | exact hne9) (by assumption) ?_; intro _ _ _)) | ((with_reducible show wpAny _ _ (binaryOp .Add (Value.str _ _) (Value.str _ _)) _ _ _); (refine my_add92 (by simp only [List.length_cons, List.length_nil]; omega) ?_; intro _ _)) | ((with_reducible show wpAny _ _ (pyIter (Value.ref _)) _ _ _); (refine wpAny_pyIter_enum (by assumption) ?_; intro _)) | ((with_reducible show wpAny _ _ (call (Value.type "enumerate") _ _) _ _ _); (refine my_enum (by k_asm) (by k_asm) (by assumption) ?_; intro _ _ _ _ _ _ _ _ _ _ _)) | (k_unfold; (try dsimp only)) | (k_end; wrow_close) | walk1 | (dsimp only; walk1) | (leave1; try dsimp only) | fail "no step")
  (rename Fr _ _ _ _ => F8; rename News _ _ _ _ => N8; rename Top _ _ _ _ _ _ => T8; rename Frag.In _ _ => X8; rename ∀ p ∈ news, _ => l8)
  refine gen_call (K := hd.heap_39 w.params) (f := 70) (by k_room) (X8.keeps F8.keep) (T8.nolimit.keeps F8.keep) (by k_is) (by k_is) (BindsTo.of_eq rfl) (locs rfl) rfl rfl rfl (by decide) ?_
  intro h₂ tk₂ nm qn a₂ hn₂ hk₂ hlt₂ ha₂
  refine wpAny_pyIter_gen ⟨_, nm, qn, ha₂, rfl, rfl, rfl⟩ ?_
  have F9 := (⟨F8.ns.at' fun o e => hk₂ _ o e, fun b o e => hk₂ b o (F8.keep b o e), F8.above⟩ : Fr _ _ h₂ _)
  have N9 : News _ _ h₂ _ := fun q hq => ⟨hk₂ _ _ (N8 q hq).1, (N8 q hq).2⟩
  with_unfolding_all refine strip_loop (all := escF false 0 l) rfl (by k_room) T8.nolimit (by rfl) (by rfl) (by rfl) rfl rfl ha₂ F8.ns.lt (Nat.le_of_lt hlt₂) (fun p hp => Heap.lt_size (N8 p (List.mem_cons_of_mem _ hp)).1) (Heap.lt_size (N8 _ (List.mem_cons_self ..)).1) (fun p hp => Nat.ne_of_lt (l8 p hp)) F9 N9 ?vs0 (by rfl) (by rfl) (by rfl) (by rfl) ?go ?step ?hR
  case vs0 => first | exact .nil | constructor
  case go =>
    refine ⟨rfl, ?_⟩
    have lk9 := fun b o e => (low_some (N₀ := _) (h := h₂)).mpr ⟨Heap.lt_size (F8.keep b o e), hk₂ b o (F8.keep b o e)⟩
    have XG := X8.keeps lk9
    have TG := T8.keeps lk9
    have FG := (⟨hn₂, fun b o e => (low_some.mp e).2, low_size⟩ : Fr (low _ h₂) _ h₂ _)
    dsimp only at FG TG XG ha₂ hlt₂
    have NG : News (low _ h₂) _ h₂ [(a₂, genObj s.gens.size nm qn)] := fun q hq => by
      rw [List.mem_singleton.mp hq]
      exact ⟨ha₂, Nat.ne_of_gt hlt₂, low_none (Nat.le_of_lt hlt₂)⟩
    dsimp only at NG ⊢
    generalize hs0 : Shared.setGen _ _ _ = s0
    have e0 : h₂ = s0.heap := by rw [← hs0]; rfl
    clear hs0
    subst e0
    clear hn₂ F9 N9 lk9
    refine seg_func ?_
    refine seg_plain ?_
    repeat' (first | ((with_reducible show wpAny _ _ (call (Value.builtin "list.append") _ _) _ _ _); (refine my_append (by k_asm) (by k_asm) (by first | assumption | exact hne9) (by assumption) ?_; intro _ _ _)) | ((with_reducible show wpAny _ _ (binaryOp .Add (Value.str _ _) (Value.str _ _)) _ _ _); (refine my_add92 (by simp only [List.length_cons, List.length_nil]; omega) ?_; intro _ _)) | ((with_reducible show wpAny _ _ (pyIter (Value.ref _)) _ _ _); (refine wpAny_pyIter_enum (by assumption) ?_; intro _)) | ((with_reducible show wpAny _ _ (call (Value.type "enumerate") _ _) _ _ _); (refine my_enum (by k_asm) (by k_asm) (by assumption) ?_; intro _ _ _ _ _ _ _ _ _ _ _)) | (k_unfold; (try dsimp only)) | (k_end; wrow_close) | walk1 | (dsimp only; walk1) | (leave1; try dsimp only) | fail "no step")
    refine seg_plain ?_
    repeat' (first | ((with_reducible show wpAny _ _ (call (Value.builtin "list.append") _ _) _ _ _); (refine my_append (by k_asm) (by k_asm) (by first | assumption | exact hne9) (by assumption) ?_; intro _ _ _)) | ((with_reducible show wpAny _ _ (binaryOp .Add (Value.str _ _) (Value.str _ _)) _ _ _); (refine my_add92 (by simp only [List.length_cons, List.length_nil]; omega) ?_; intro _ _)) | ((with_reducible show wpAny _ _ (pyIter (Value.ref _)) _ _ _); (refine wpAny_pyIter_enum (by assumption) ?_; intro _)) | ((with_reducible show wpAny _ _ (call (Value.type "enumerate") _ _) _ _ _); (refine my_enum (by k_asm) (by k_asm) (by assumption) ?_; intro _ _ _ _ _ _ _ _ _ _ _)) | (k_unfold; (try dsimp only)) | (k_end; wrow_close) | walk1 | (dsimp only; walk1) | (leave1; try dsimp only) | fail "no step")
    refine seg_execs_cons (seg_For (fun _ => rfl) ?_)
    repeat' (first | ((with_reducible show wpAny _ _ (call (Value.builtin "list.append") _ _) _ _ _); (refine my_append (by k_asm) (by k_asm) (by first | assumption | exact hne9) (by assumption) ?_; intro _ _ _)) | ((with_reducible show wpAny _ _ (binaryOp .Add (Value.str _ _) (Value.str _ _)) _ _ _); (refine my_add92 (by simp only [List.length_cons, List.length_nil]; omega) ?_; intro _ _)) | ((with_reducible show wpAny _ _ (pyIter (Value.ref _)) _ _ _); (refine wpAny_pyIter_enum (by assumption) ?_; intro _)) | ((with_reducible show wpAny _ _ (call (Value.type "enumerate") _ _) _ _ _); (refine my_enum (by k_asm) (by k_asm) (by assumption) ?_; intro _ _ _ _ _ _ _ _ _ _ _)) | (k_unfold; (try dsimp only)) | (k_end; wrow_close) | walk1 | (dsimp only; walk1) | (leave1; try dsimp only) | fail "no step")
    (rename IsEnum _ _ _ _ _ => hE9; rename Heap.IsStrIter _ _ _ _ _ _ => hI9; rename Fr _ _ _ _ => FG9; rename News _ _ _ _ => NG9)
    rename_i hx en it hn1 hn2 hn3 hn4 _
    have hna := hn4 _ (List.mem_singleton.mpr rfl)
    with_unfolding_all refine seg_enum (all := escF false 0 l) rfl rfl rfl (by rfl) (by rfl) (by rfl) (by exact Nat.le_refl _) (Nat.le_of_lt hn2) (Nat.le_of_lt hn3) hn1 (Nat.ne_of_gt hn2) (Nat.ne_of_gt hn3) (Nat.le_of_lt hlt₂) hna.1 hna.2 (Nat.ne_of_gt hlt₂) ?gstep ?gfin l.length 0 false _ _ _ ⟨[], rfl⟩ (Nat.sub_zero _) (Nat.zero_le _) ⟨_, hE9⟩ hI9 FG9.ns (by rfl) ⟨_, by rfl⟩ ⟨_, _, rfl, FG9.keep, (NG9 _ (List.mem_singleton.mpr rfl)).1⟩
    case gstep =>
      clear FG9 NG9 hE9 hI9
      intro i e ch s₀ s9 m9 oe oi t9 u9 hget hsuf hesc FG NG hs9 cont
      obtain ⟨pre, hpre⟩ := hsuf
      rw [escF_step hget] at hpre ⊢
      obtain ⟨h9, tk9, rfl, hk9, ha9⟩ := hs9
      cases e with
      | true =>
        show Seg _ _ _ _ ((escF (!true && ch == 92) (i + 1) (l.drop (i + 1))).length + 1) _ _ _ _ _
        refine seg_execs_cons (seg_If ?_)
        repeat' (first | ((with_reducible show wpAny _ _ (call (Value.builtin "list.append") _ _) _ _ _); (refine my_append (by k_asm) (by k_asm) (by first | assumption | exact hne9) (by assumption) ?_; intro _ _ _)) | ((with_reducible show wpAny _ _ (binaryOp .Add (Value.str _ _) (Value.str _ _)) _ _ _); (refine my_add92 (by simp only [List.length_cons, List.length_nil]; omega) ?_; intro _ _)) | ((with_reducible show wpAny _ _ (pyIter (Value.ref _)) _ _ _); (refine wpAny_pyIter_enum (by assumption) ?_; intro _)) | ((with_reducible show wpAny _ _ (call (Value.type "enumerate") _ _) _ _ _); (refine my_enum (by k_asm) (by k_asm) (by assumption) ?_; intro _ _ _ _ _ _ _ _ _ _ _)) | (k_unfold; (try dsimp only)) | (k_end; wrow_close) | walk1 | (dsimp only; walk1) | (leave1; try dsimp only) | fail "no step")
        rw [if_pos rfl]
        refine seg_execs_cons (seg_Expr_Yield rfl rfl rfl ?_)
        repeat' (first | ((with_reducible show wpAny _ _ (call (Value.builtin "list.append") _ _) _ _ _); (refine my_append (by k_asm) (by k_asm) (by first | assumption | exact hne9) (by assumption) ?_; intro _ _ _)) | ((with_reducible show wpAny _ _ (binaryOp .Add (Value.str _ _) (Value.str _ _)) _ _ _); (refine my_add92 (by simp only [List.length_cons, List.length_nil]; omega) ?_; intro _ _)) | ((with_reducible show wpAny _ _ (pyIter (Value.ref _)) _ _ _); (refine wpAny_pyIter_enum (by assumption) ?_; intro _)) | ((with_reducible show wpAny _ _ (call (Value.type "enumerate") _ _) _ _ _); (refine my_enum (by k_asm) (by k_asm) (by assumption) ?_; intro _ _ _ _ _ _ _ _ _ _ _)) | (k_unfold; (try dsimp only)) | (k_end; wrow_close) | walk1 | (dsimp only; walk1) | (leave1; try dsimp only) | fail "no step")
        (rename Fr _ _ _ _ => FG9; rename News _ _ _ _ => NG9; rename_i kap9 hkap)
        refine yield_ok (x := [92, ch]) (rest := escF (!true && ch == 92) (i + 1) (l.drop (i + 1))) (keep := [(en, oe), (it, oi), (a₂, _)]) hpre rfl FG9 NG9 (List.mem_cons_self ..) (fun q hq => ⟨List.mem_cons_of_mem _ hq, keepN (Nat.le_of_lt hn2) (Nat.le_of_lt hn3) (Nat.le_of_lt hlt₂) q hq⟩) (List.mem_cons_of_mem _ (List.mem_cons_of_mem _ (List.mem_cons_self ..))) (Nat.le_refl _) ⟨_, _, rfl⟩ (fun s'' FG'' NG'' hS'' => hkap .none s'' ?_)
        clear FG9 NG9 hkap
        refine seg_plain ?_
        repeat' (first | ((with_reducible show wpAny _ _ (call (Value.builtin "list.append") _ _) _ _ _); (refine my_append (by k_asm) (by k_asm) (by first | assumption | exact hne9) (by assumption) ?_; intro _ _ _)) | ((with_reducible show wpAny _ _ (binaryOp .Add (Value.str _ _) (Value.str _ _)) _ _ _); (refine my_add92 (by simp only [List.length_cons, List.length_nil]; omega) ?_; intro _ _)) | ((with_reducible show wpAny _ _ (pyIter (Value.ref _)) _ _ _); (refine wpAny_pyIter_enum (by assumption) ?_; intro _)) | ((with_reducible show wpAny _ _ (call (Value.type "enumerate") _ _) _ _ _); (refine my_enum (by k_asm) (by k_asm) (by assumption) ?_; intro _ _ _ _ _ _ _ _ _ _ _)) | (k_unfold; (try dsimp only)) | (k_end; wrow_close) | walk1 | (dsimp only; walk1) | (leave1; try dsimp only) | fail "no step")
        (rename Fr _ _ _ _ => FG9; rename News _ _ _ _ => NG9)
        exact cont s'' _ _ FG9 NG9 (by with_unfolding_all rfl) (by with_unfolding_all rfl) ⟨_, _, rfl, FG9.keep, (NG9 _ (List.mem_cons_of_mem _ (List.mem_cons_of_mem _ (List.mem_cons_self ..)))).1⟩
      | false =>
        refine seg_execs_cons (seg_If ?_)
        repeat' (first | ((with_reducible show wpAny _ _ (call (Value.builtin "list.append") _ _) _ _ _); (refine my_append (by k_asm) (by k_asm) (by first | assumption | exact hne9) (by assumption) ?_; intro _ _ _)) | ((with_reducible show wpAny _ _ (binaryOp .Add (Value.str _ _) (Value.str _ _)) _ _ _); (refine my_add92 (by simp only [List.length_cons, List.length_nil]; omega) ?_; intro _ _)) | ((with_reducible show wpAny _ _ (pyIter (Value.ref _)) _ _ _); (refine wpAny_pyIter_enum (by assumption) ?_; intro _)) | ((with_reducible show wpAny _ _ (call (Value.type "enumerate") _ _) _ _ _); (refine my_enum (by k_asm) (by k_asm) (by assumption) ?_; intro _ _ _ _ _ _ _ _ _ _ _)) | (k_unfold; (try dsimp only)) | (k_end; wrow_close) | walk1 | (dsimp only; walk1) | (leave1; try dsimp only) | fail "no step")
        rw [if_neg Bool.false_ne_true] at hpre ⊢
        refine seg_execs_cons (seg_If ?_)
        repeat' (first | ((with_reducible show wpAny _ _ (call (Value.builtin "list.append") _ _) _ _ _); (refine my_append (by k_asm) (by k_asm) (by first | assumption | exact hne9) (by assumption) ?_; intro _ _ _)) | ((with_reducible show wpAny _ _ (binaryOp .Add (Value.str _ _) (Value.str _ _)) _ _ _); (refine my_add92 (by simp only [List.length_cons, List.length_nil]; omega) ?_; intro _ _)) | ((with_reducible show wpAny _ _ (pyIter (Value.ref _)) _ _ _); (refine wpAny_pyIter_enum (by assumption) ?_; intro _)) | ((with_reducible show wpAny _ _ (call (Value.type "enumerate") _ _) _ _ _); (refine my_enum (by k_asm) (by k_asm) (by assumption) ?_; intro _ _ _ _ _ _ _ _ _ _ _)) | (k_unfold; (try dsimp only)) | (k_end; wrow_close) | walk1 | (dsimp only; walk1) | (leave1; try dsimp only) | fail "no step")
        by_cases hc : ch = 92
        · subst hc
          rw [show (S [92] == Str.ofString "\\") = true by decide +kernel]
          refine seg_plain ?_
          repeat' (first | ((with_reducible show wpAny _ _ (call (Value.builtin "list.append") _ _) _ _ _); (refine my_append (by k_asm) (by k_asm) (by first | assumption | exact hne9) (by assumption) ?_; intro _ _ _)) | ((with_reducible show wpAny _ _ (binaryOp .Add (Value.str _ _) (Value.str _ _)) _ _ _); (refine my_add92 (by simp only [List.length_cons, List.length_nil]; omega) ?_; intro _ _)) | ((with_reducible show wpAny _ _ (pyIter (Value.ref _)) _ _ _); (refine wpAny_pyIter_enum (by assumption) ?_; intro _)) | ((with_reducible show wpAny _ _ (call (Value.type "enumerate") _ _) _ _ _); (refine my_enum (by k_asm) (by k_asm) (by assumption) ?_; intro _ _ _ _ _ _ _ _ _ _ _)) | (k_unfold; (try dsimp only)) | (k_end; wrow_close) | walk1 | (dsimp only; walk1) | (leave1; try dsimp only) | fail "no step")
          (rename Fr _ _ _ _ => FG9; rename News _ _ _ _ => NG9)
          exact cont s₀ _ _ FG9 NG9 (by with_unfolding_all rfl) (by with_unfolding_all rfl) ⟨_, _, rfl, FG9.keep, (NG9 _ (List.mem_cons_of_mem _ (List.mem_cons_of_mem _ (List.mem_cons_self ..)))).1⟩
        · have hb : (S [ch] == Str.ofString "\\") = false := by rw [ch_bs]; simpa using hc
          rw [hb]
          rw [if_neg hc] at hpre ⊢
          show Seg _ _ _ _ ((escF (!false && ch == 92) (i + 1) (l.drop (i + 1))).length + 1) _ _ _ _ _
          refine seg_execs_cons (seg_Expr_Yield rfl rfl rfl ?_)
          repeat' (first | ((with_reducible show wpAny _ _ (call (Value.builtin "list.append") _ _) _ _ _); (refine my_append (by k_asm) (by k_asm) (by first | assumption | exact hne9) (by assumption) ?_; intro _ _ _)) | ((with_reducible show wpAny _ _ (binaryOp .Add (Value.str _ _) (Value.str _ _)) _ _ _); (refine my_add92 (by simp only [List.length_cons, List.length_nil]; omega) ?_; intro _ _)) | ((with_reducible show wpAny _ _ (pyIter (Value.ref _)) _ _ _); (refine wpAny_pyIter_enum (by assumption) ?_; intro _)) | ((with_reducible show wpAny _ _ (call (Value.type "enumerate") _ _) _ _ _); (refine my_enum (by k_asm) (by k_asm) (by assumption) ?_; intro _ _ _ _ _ _ _ _ _ _ _)) | (k_unfold; (try dsimp only)) | (k_end; wrow_close) | walk1 | (dsimp only; walk1) | (leave1; try dsimp only) | fail "no step")
          (rename Fr _ _ _ _ => FG9; rename News _ _ _ _ => NG9; rename_i kap9 hkap)
          refine yield_ok (x := [ch]) (rest := escF (!false && ch == 92) (i + 1) (l.drop (i + 1))) (keep := [(en, oe), (it, oi), (a₂, _)]) hpre rfl FG9 NG9 (List.mem_cons_self ..) (fun q hq => ⟨List.mem_cons_of_mem _ hq, keepN (Nat.le_of_lt hn2) (Nat.le_of_lt hn3) (Nat.le_of_lt hlt₂) q hq⟩) (List.mem_cons_of_mem _ (List.mem_cons_of_mem _ (List.mem_cons_self ..))) (Nat.le_refl _) ⟨_, _, rfl⟩ (fun s'' FG'' NG'' hS'' => hkap .none s'' ?_)
          have hc' : (!false && ch == 92) = false := by simpa using hc
          exact cont s'' s'' _ FG'' NG'' (by rw [hc']; with_unfolding_all rfl) (by with_unfolding_all rfl) hS''
    case gfin =>
      clear FG9 NG9 hE9 hI9
      intro e s₀ s9 m9 hsuf t9 FG hs9
      obtain ⟨pre, hpre⟩ := hsuf
      obtain ⟨h9, tk9, rfl, hk9, ha9⟩ := hs9
      have NG : News (low _ s₀.heap) _ h9 [(a₂, genObj s.gens.size nm qn)] := fun q hq => by
        rw [List.mem_singleton.mp hq]
        exact ⟨ha9, Nat.ne_of_gt hlt₂, low_none (Nat.le_of_lt hlt₂)⟩
      refine seg_leaf (.ok .next) ?_
      refine seg_execs_cons (seg_If ?_)
      cases e with
      | true =>
        repeat' (first | ((with_reducible show wpAny _ _ (call (Value.builtin "list.append") _ _) _ _ _); (refine my_append (by k_asm) (by k_asm) (by first | assumption | exact hne9) (by assumption) ?_; intro _ _ _)) | ((with_reducible show wpAny _ _ (binaryOp .Add (Value.str _ _) (Value.str _ _)) _ _ _); (refine my_add92 (by simp only [List.length_cons, List.length_nil]; omega) ?_; intro _ _)) | ((with_reducible show wpAny _ _ (pyIter (Value.ref _)) _ _ _); (refine wpAny_pyIter_enum (by assumption) ?_; intro _)) | ((with_reducible show wpAny _ _ (call (Value.type "enumerate") _ _) _ _ _); (refine my_enum (by k_asm) (by k_asm) (by assumption) ?_; intro _ _ _ _ _ _ _ _ _ _ _)) | (k_unfold; (try dsimp only)) | (k_end; wrow_close) | walk1 | (dsimp only; walk1) | (leave1; try dsimp only) | fail "no step")
        rw [if_pos rfl]
        refine seg_execs_cons (seg_Expr_Yield (n := 0) rfl rfl rfl ?_)
        repeat' (first | ((with_reducible show wpAny _ _ (call (Value.builtin "list.append") _ _) _ _ _); (refine my_append (by k_asm) (by k_asm) (by first | assumption | exact hne9) (by assumption) ?_; intro _ _ _)) | ((with_reducible show wpAny _ _ (binaryOp .Add (Value.str _ _) (Value.str _ _)) _ _ _); (refine my_add92 (by simp only [List.length_cons, List.length_nil]; omega) ?_; intro _ _)) | ((with_reducible show wpAny _ _ (pyIter (Value.ref _)) _ _ _); (refine wpAny_pyIter_enum (by assumption) ?_; intro _)) | ((with_reducible show wpAny _ _ (call (Value.type "enumerate") _ _) _ _ _); (refine my_enum (by k_asm) (by k_asm) (by assumption) ?_; intro _ _ _ _ _ _ _ _ _ _ _)) | (k_unfold; (try dsimp only)) | (k_end; wrow_close) | walk1 | (dsimp only; walk1) | (leave1; try dsimp only) | fail "no step")
        (rename Fr _ _ _ _ => FG9; rename News _ _ _ _ => NG9; rename_i kap9 hkap)
        rw [bs_str] at NG9
        refine yield_ok (x := [92]) (rest := []) (keep := [(a₂, _)]) hpre rfl FG9 NG9 (List.mem_cons_self ..) (fun q hq => ⟨List.mem_cons_of_mem _ hq, by rw [List.mem_singleton.mp hq]; exact Nat.le_of_lt hlt₂⟩) (List.mem_cons_self ..) (Nat.le_refl _) ⟨_, _, rfl⟩ (fun s'' FG'' NG'' hS'' => hkap .none s'' ?_)
        exact seg_end (.ok (.ret .none)) ⟨rfl, rfl, hS''⟩
      | false =>
        repeat' (first | ((with_reducible show wpAny _ _ (call (Value.builtin "list.append") _ _) _ _ _); (refine my_append (by k_asm) (by k_asm) (by first | assumption | exact hne9) (by assumption) ?_; intro _ _ _)) | ((with_reducible show wpAny _ _ (binaryOp .Add (Value.str _ _) (Value.str _ _)) _ _ _); (refine my_add92 (by simp only [List.length_cons, List.length_nil]; omega) ?_; intro _ _)) | ((with_reducible show wpAny _ _ (pyIter (Value.ref _)) _ _ _); (refine wpAny_pyIter_enum (by assumption) ?_; intro _)) | ((with_reducible show wpAny _ _ (call (Value.type "enumerate") _ _) _ _ _); (refine my_enum (by k_asm) (by k_asm) (by assumption) ?_; intro _ _ _ _ _ _ _ _ _ _ _)) | (k_unfold; (try dsimp only)) | (k_end; wrow_close) | walk1 | (dsimp only; walk1) | (leave1; try dsimp only) | fail "no step")
        rw [if_neg Bool.false_ne_true]
        exact seg_end (.ok (.ret .none)) ⟨rfl, rfl, ⟨_, _, rfl, hk9, ha9⟩⟩
  case step =>
    clear F8 N8 F9 N9
    rintro j p x ⟨sa, op, res⟩ t1 t2 u1 u2 vs n m₁ s₁ own hall hst hvs FG NG hne
    obtain ⟨hok, hpl⟩ := esc_turn hall
    rw [← hst] at hok
    cases op with
    | none =>
      clear hret
      dsimp only [opV] at FG hvs
      repeat' (first | ((with_reducible show wpAny _ _ (call (Value.builtin "list.append") _ _) _ _ _); (refine my_append (by k_asm) (by k_asm) (by first | assumption | exact hne9) (by assumption) ?_; intro _ _ _)) | ((with_reducible show wpAny _ _ (binaryOp .Add (Value.str _ _) (Value.str _ _)) _ _ _); (refine my_add92 (by simp only [List.length_cons, List.length_nil]; omega) ?_; intro _ _)) | ((with_reducible show wpAny _ _ (pyIter (Value.ref _)) _ _ _); (refine wpAny_pyIter_enum (by assumption) ?_; intro _)) | ((with_reducible show wpAny _ _ (call (Value.type "enumerate") _ _) _ _ _); (refine my_enum (by k_asm) (by k_asm) (by assumption) ?_; intro _ _ _ _ _ _ _ _ _ _ _)) | (k_unfold; (try dsimp only)) | (k_end; wrow_close) | walk1 | (dsimp only; walk1) | (leave1; try dsimp only) | fail "no step")
      · have hx := st_mark (by assumption)
        subst hx
        exact sEnd_of (u2 := t1) (by k_asm) (by k_asm) (by with_unfolding_all rfl) (by with_unfolding_all rfl) (by with_unfolding_all rfl) (by with_unfolding_all rfl) hvs (fun q hq => hq) ⟨rfl, rfl, rfl⟩
      · rw [st_same (by assumption)]
        exact sEnd_of (u2 := t1) (by k_asm) (by k_asm) (by with_unfolding_all rfl) (by with_unfolding_all rfl) (by with_unfolding_all rfl) (by with_unfolding_all rfl) hvs (fun q hq => hq) ⟨rfl, rfl, rfl⟩
    | some o =>
      clear hret
      dsimp only [opV] at FG hvs
      have ho9 := hok.2 o rfl
      dsimp only at ho9
      have hz9 : vs.length ≤ 700 := by
        have e1 := hvs.length
        have e2 := res_fold (l := l) ((escF false 0 l).take j) (0, none, [])
        rw [← hst] at e2
        have e3 := esc_length l false 0
        have e4 : ((escF false 0 l).take j).length ≤ (escF false 0 l).length := List.length_take_le' ..
        simp only [List.length_map, List.length_nil] at e1 e2
        omega
      repeat' (first | ((with_reducible show wpAny _ _ (call (Value.builtin "list.append") _ _) _ _ _); (refine my_append (by k_asm) (by k_asm) (by first | assumption | exact hne9) (by assumption) ?_; intro _ _ _)) | ((with_reducible show wpAny _ _ (binaryOp .Add (Value.str _ _) (Value.str _ _)) _ _ _); (refine my_add92 (by simp only [List.length_cons, List.length_nil]; omega) ?_; intro _ _)) | ((with_reducible show wpAny _ _ (pyIter (Value.ref _)) _ _ _); (refine wpAny_pyIter_enum (by assumption) ?_; intro _)) | ((with_reducible show wpAny _ _ (call (Value.type "enumerate") _ _) _ _ _); (refine my_enum (by k_asm) (by k_asm) (by assumption) ?_; intro _ _ _ _ _ _ _ _ _ _ _)) | (k_unfold; (try dsimp only)) | (k_end; wrow_close) | walk1 | (dsimp only; walk1) | (leave1; try dsimp only) | fail "no step")
      · have hx := st_mark (by assumption)
        subst hx
        exact sEnd_of (u2 := t1) (by k_asm) (by k_asm) (by with_unfolding_all rfl) (by with_unfolding_all rfl) (by with_unfolding_all rfl) (by with_unfolding_all rfl) (st_cut (by assumption) ho9.1 (by omega) hvs) (fun q hq => hq) ⟨rfl, rfl, rfl⟩
      · have hx := st_mark (by assumption)
        subst hx
        rw [st_nocut (by assumption)]
        exact sEnd_of (u2 := t1) (by k_asm) (by k_asm) (by with_unfolding_all rfl) (by with_unfolding_all rfl) (by with_unfolding_all rfl) (by with_unfolding_all rfl) hvs (fun q hq => hq) ⟨rfl, rfl, rfl⟩
      · rw [st_same (by assumption)]
        exact sEnd_of (u2 := u2) (by k_asm) (by k_asm) (by with_unfolding_all rfl) (by with_unfolding_all rfl) (by with_unfolding_all rfl) (by with_unfolding_all rfl) hvs (fun q hq => hq) ⟨rfl, rfl, rfl⟩
  case hR =>
    clear F8 N8 F9 N9
    intro h9 tk9 m9 vs n u1 u2 FG NG hvs e1 e2 e3 e4
    obtain ⟨hok1, hok2⟩ := esc_end l
    have hlaw := strip_law l
    generalize hst : (escF false 0 l).foldl (stStep l) (0, none, []) = st at *
    obtain ⟨sa, op, res⟩ := st
    dsimp only at hok1 e2 e3 hvs
    replace FG := fr_see3 FG e1 e2 e4
    clear e1 e2 e3 e4
    have hne9 := fun p hp => Nat.ne_of_lt (l8 p hp)
    have hz9 : vs.length ≤ 700 := by
      have e1 := hvs.length
      have e2 := res_fold (l := l) (escF false 0 l) (0, none, [])
      rw [hst] at e2
      have e3 := esc_length l false 0
      simp only [List.length_map, List.length_nil] at e1 e2
      omega
    have ho9 := out_len l false
    dsimp only at FG NG hne9 ⊢
    repeat' (first | ((with_reducible show wpAny _ _ (call (Value.builtin "list.append") _ _) _ _ _); (refine my_append (by k_asm) (by k_asm) (by first | assumption | exact hne9) (by assumption) ?_; intro _ _ _)) | ((with_reducible show wpAny _ _ (binaryOp .Add (Value.str _ _) (Value.str _ _)) _ _ _); (refine my_add92 (by simp only [List.length_cons, List.length_nil]; omega) ?_; intro _ _)) | ((with_reducible show wpAny _ _ (pyIter (Value.ref _)) _ _ _); (refine wpAny_pyIter_enum (by assumption) ?_; intro _)) | ((with_reducible show wpAny _ _ (call (Value.type "enumerate") _ _) _ _ _); (refine my_enum (by k_asm) (by k_asm) (by assumption) ?_; intro _ _ _ _ _ _ _ _ _ _ _)) | (k_unfold; (try dsimp only)) | (k_end; wrow_close) | walk1 | (dsimp only; walk1) | (leave1; try dsimp only) | fail "no step")
    · (rename LT.lt (α := Int) _ _ => hlt9)
      rw [S_len] at hlt9
      refine my_join (by k_asm) (List.Mem.head _) (st_tail (op := op) (by omega) hvs) hlaw (by omega) ?_
      intro t' tk'
      repeat' (first | ((with_reducible show wpAny _ _ (call (Value.builtin "list.append") _ _) _ _ _); (refine my_append (by k_asm) (by k_asm) (by first | assumption | exact hne9) (by assumption) ?_; intro _ _ _)) | ((with_reducible show wpAny _ _ (binaryOp .Add (Value.str _ _) (Value.str _ _)) _ _ _); (refine my_add92 (by simp only [List.length_cons, List.length_nil]; omega) ?_; intro _ _)) | ((with_reducible show wpAny _ _ (pyIter (Value.ref _)) _ _ _); (refine wpAny_pyIter_enum (by assumption) ?_; intro _)) | ((with_reducible show wpAny _ _ (call (Value.type "enumerate") _ _) _ _ _); (refine my_enum (by k_asm) (by k_asm) (by assumption) ?_; intro _ _ _ _ _ _ _ _ _ _ _)) | (k_unfold; (try dsimp only)) | (k_end; wrow_close) | walk1 | (dsimp only; walk1) | (leave1; try dsimp only) | fail "no step")
      exact hret _ _ _ _ (hg.push rfl) (by assumption) (news_sub (by assumption) (fun q hq => List.mem_cons_of_mem _ hq))
    · (rename ¬ LT.lt (α := Int) _ _ => hlt9)
      rw [S_len] at hlt9
      refine my_join (by k_asm) (List.Mem.head _) (st_notail (op := op) (by omega) hvs) hlaw (by omega) ?_
      intro t' tk'
      repeat' (first | ((with_reducible show wpAny _ _ (call (Value.builtin "list.append") _ _) _ _ _); (refine my_append (by k_asm) (by k_asm) (by first | assumption | exact hne9) (by assumption) ?_; intro _ _ _)) | ((with_reducible show wpAny _ _ (binaryOp .Add (Value.str _ _) (Value.str _ _)) _ _ _); (refine my_add92 (by simp only [List.length_cons, List.length_nil]; omega) ?_; intro _ _)) | ((with_reducible show wpAny _ _ (pyIter (Value.ref _)) _ _ _); (refine wpAny_pyIter_enum (by assumption) ?_; intro _)) | ((with_reducible show wpAny _ _ (call (Value.type "enumerate") _ _) _ _ _); (refine my_enum (by k_asm) (by k_asm) (by assumption) ?_; intro _ _ _ _ _ _ _ _ _ _ _)) | (k_unfold; (try dsimp only)) | (k_end; wrow_close) | walk1 | (dsimp only; walk1) | (leave1; try dsimp only) | fail "no step")
      exact hret _ _ _ _ (hg.push rfl) (by assumption) (news_sub (by assumption) (fun q hq => List.mem_cons_of_mem _ hq))

end
end Mine
end

section
open PySem PySem.W PyProof.Rows PySem.Calls PySem.Spec
set_option Elab.async false
set_option maxRecDepth 100000
set_option maxHeartbeats 4000000
namespace Mine
local macro_rules | `(tactic| k_all) => `(tactic| first | (with_reducible assumption) | (refine fun p hp => Nat.ne_of_lt (allLt_mem ?_ p hp); (iterate 16 (first | done | assumption | apply And.right)); done))
section

theorem word_all {prog : Program} {w : World} {mg mb : Str → Option Value} {mean : ExcName → Option Value} {p : Program} {loose : List Str} 
   (y : List Nat) (t : Tok) (ps : Array Value) (hl : y.length ≤ 600) (hlen : (S (34 :: y)).length ≤ 1000) (hA : Alph y) (hT : lexT false y = true)
   (cn : Str) (nms : List (Str × NameKind)) (ig ic : Bool) (mr : List (Str × Const)) (a : Addr) (ccd : Value) (base h₀ : Heap) (L : Addr) (m : Str → Option Value) (news : List (Addr × Obj)) (s : Shared) (Q E : Value → Shared → Prop)
   (B : Below callerA base [] h₀) (F : Fr h₀ L s.heap m) (X : (hd.heap_39 w.params).In h₀) (N : News h₀ L s.heap ((123, tabObj ps) :: news)) (T : Top p loose mean mg mb h₀) (XB : (hd.heap_39 w.params).In base) (TB : Top p loose mean mg mb base)
   (C9 : CodeHd base 127 123) (hn9 : ∀ p ∈ news, p.1 ≠ 123) (hO : TabOk 109 4 ps news)
   (hret : ∀ D t1 t2 t3 c' oc vs tq h' tk', Fr h₀ L h' m → News h₀ L h' ((D, tup [.str (S (lexF false y).1) t1, .int 1 t2, .int ((lexF false y).2 : Nat) t3]) :: (123, tabObj #[rawInt (109 : Nat), rawInt (4 : Nat), .ref c']) :: (c', oc) :: news) → oc.data = .fields vs → vs[1]? = some (.str pieceQual tq) → Q (.ref D) { s with heap := h', toks := tk' }) :
   wpAny (model prog w) (callerA.deeper (envOf cn ⟨.function, nms, ig, ic, mr⟩ L a ccd)) (call (.ref 128) [.str (S (34 :: y)) t]) Q E s := by
  have hz9 : (34 :: y).length ≤ 1000 := by simp only [List.length_cons]; omega
  repeat' (first | ((with_reducible show wpAny _ _ (exec (PySem.Stmt.FunctionDef _ _ _ _ _ _ _ _ _ _) _) _ _ _); (refine nestDef_K (by exact rfl) (by exact rfl) (by exact rfl) ?_; refine my_nest (pre := [_, _, _, _, _, _]) (by k_asm) (by k_asm) (by k_asm) (by kn_code) (by exact rfl) (by k_all) (by assumption) (by assumption) (by exact rfl) (List.mem_cons_of_mem _ (List.mem_cons_of_mem _ (List.mem_cons_self ..))) (List.mem_cons_of_mem _ (List.mem_cons_of_mem _ (List.mem_cons_of_mem _ (List.mem_cons_self ..)))) (by (iterate 16 (first | done | assumption | apply And.right)); done) (by (iterate 16 (first | done | assumption | apply And.right)); done) (by exact rfl) ?_; intro _ _ _ _ _ _ _ _ _ _ N' _ _ _ _ _ l1; dsimp only [List.cons_append, List.nil_append] at N' l1; (try k_lt l1))) | (((with_reducible show wpAny _ _ (getMethod (Value.ref _) (PySem.Str.ofString "read") _) _ _ _); (refine kmu_own (by k_asm) (by k_asm) (by k_inst) (by k_is) (by k_is) ?_))) | ((with_reducible show wpAny _ _ (inplaceOp .Add (Value.str _ _) (Value.str _ _)) _ _ _); (refine my_iadd ?_ ?_; (first | (simp only [List.length_append, List.length_replicate, List.length_cons, List.length_nil]; omega) | fail "my_iadd"); intro _ _)) | ((with_reducible show wpAny _ _ (compareOp .Eq (Value.str _ _) (Value.str _ _)) _ _ _); (refine my_eqF (by assumption) ?_)) | ((with_reducible show wpAny _ _ (compareOp .In (Value.str _ _) (Value.str _ _)) _ _ _); (refine my_notin_ws ?_)) | ((with_reducible show wpAny _ _ (truthy (Value.ref _)) _ _ _); (refine my_truthy (by k_asm) (by with_reducible (repeat (first | exact List.mem_cons_self .. | refine List.mem_cons_of_mem _ ?_))) (by assumption) ?_)) | ((with_reducible show wpAny _ _ (call (Value.builtin "list.pop") _ _) _ _ _); (refine my_pop (by k_asm) (by k_asm) (by k_upd) (by assumption) ?_; intro _ _ _)) | ((with_reducible show wpAny _ _ (pyIter (Value.ref _)) _ _ _); first | (refine wpAny_pyIter_enum (by assumption) ?_; intro _) | (refine my_ci_iter (t := _) (by k_asm) (by k_mem) ?_)) | ((with_reducible show wpAny _ _ (call (Value.builtin "iter") _ _) _ _ _); (refine my_iter2 (by k_asm) (by k_asm) (List.Mem.head _) ?_; intro _ _ _ _ l1; (try k_lt l1))) | ((with_reducible show wpAny _ _ (subscriptTail (PySem.Expr.Name _ _) _ (Value.ref _) (Value.ref _)) _ _ _); (refine my_rev (by k_asm) (by k_asm) (List.Mem.head _) (by assumption) (by rw [List.length_map]; assumption) (IsPart.int _ _) ?_ (by with_unfolding_all rfl) (by kmk_pure); intro _ _ _ _ l1; (try k_lt l1))) | ((with_reducible show wpAny _ _ (call (Value.type "list") _ _) _ _ _); (refine my_list rfl (by k_asm) (by k_asm) (by assumption) ?_; intro _ _ _ _ _ _ _ l1 _; (try k_lt l1))) | (k_unfold; (try dsimp only)) | (k_end; wrow_close) | walk1 | (dsimp only; walk1) | (leave1; try dsimp only) | fail "no step")
  (rename Fr _ _ _ _ => F8; rename News _ _ _ _ => N8; rename StrsAre _ _ => hv8)
  (rename _ < _ ∧ _ < _ ∧ _ < _ ∧ AllLt _ _ => l8; rename _ < _ ∧ _ < _ ∧ AllLt _ _ => l7; rename _ < _ ∧ AllLt _ _ => l6)
  rename_i Dr9 hr9
  refine storeX_C F8 N8 rfl (upd_cell l8.2.1 l7.1 l6.1 l6.2) (by assumption) ?_ rfl rfl
  intro h9 o9 F9 N9 d9
  clear F8 N8
  try dsimp only at N9
  obtain ⟨v9, vs9, rfl, hv1, hv2⟩ := strs_cons hv8
  obtain ⟨t9, rfl⟩ := strs_one hv1
  repeat' (first | ((with_reducible show wpAny _ _ (exec (PySem.Stmt.FunctionDef _ _ _ _ _ _ _ _ _ _) _) _ _ _); (refine nestDef_K (by exact rfl) (by exact rfl) (by exact rfl) ?_; refine my_nest (pre := [_, _, _, _, _, _]) (by k_asm) (by k_asm) (by k_asm) (by kn_code) (by exact rfl) (by k_all) (by assumption) (by assumption) (by exact rfl) (List.mem_cons_of_mem _ (List.mem_cons_of_mem _ (List.mem_cons_self ..))) (List.mem_cons_of_mem _ (List.mem_cons_of_mem _ (List.mem_cons_of_mem _ (List.mem_cons_self ..)))) (by (iterate 16 (first | done | assumption | apply And.right)); done) (by (iterate 16 (first | done | assumption | apply And.right)); done) (by exact rfl) ?_; intro _ _ _ _ _ _ _ _ _ _ N' _ _ _ _ _ l1; dsimp only [List.cons_append, List.nil_append] at N' l1; (try k_lt l1))) | (((with_reducible show wpAny _ _ (getMethod (Value.ref _) (PySem.Str.ofString "read") _) _ _ _); (refine kmu_own (by k_asm) (by k_asm) (by k_inst) (by k_is) (by k_is) ?_))) | ((with_reducible show wpAny _ _ (inplaceOp .Add (Value.str _ _) (Value.str _ _)) _ _ _); (refine my_iadd ?_ ?_; (first | (simp only [List.length_append, List.length_replicate, List.length_cons, List.length_nil]; omega) | fail "my_iadd"); intro _ _)) | ((with_reducible show wpAny _ _ (compareOp .Eq (Value.str _ _) (Value.str _ _)) _ _ _); (refine my_eqF (by assumption) ?_)) | ((with_reducible show wpAny _ _ (compareOp .In (Value.str _ _) (Value.str _ _)) _ _ _); (refine my_notin_ws ?_)) | ((with_reducible show wpAny _ _ (truthy (Value.ref _)) _ _ _); (refine my_truthy (by k_asm) (by with_reducible (repeat (first | exact List.mem_cons_self .. | refine List.mem_cons_of_mem _ ?_))) (by assumption) ?_)) | ((with_reducible show wpAny _ _ (call (Value.builtin "list.pop") _ _) _ _ _); (refine my_pop (by k_asm) (by k_asm) (by k_upd) (by assumption) ?_; intro _ _ _)) | ((with_reducible show wpAny _ _ (pyIter (Value.ref _)) _ _ _); first | (refine wpAny_pyIter_enum (by assumption) ?_; intro _) | (refine my_ci_iter (t := _) (by k_asm) (by k_mem) ?_)) | ((with_reducible show wpAny _ _ (call (Value.builtin "iter") _ _) _ _ _); (refine my_iter2 (by k_asm) (by k_asm) (List.Mem.head _) ?_; intro _ _ _ _ l1; (try k_lt l1))) | ((with_reducible show wpAny _ _ (subscriptTail (PySem.Expr.Name _ _) _ (Value.ref _) (Value.ref _)) _ _ _); (refine my_rev (by k_asm) (by k_asm) (List.Mem.head _) (by assumption) (by rw [List.length_map]; assumption) (IsPart.int _ _) ?_ (by with_unfolding_all rfl) (by kmk_pure); intro _ _ _ _ l1; (try k_lt l1))) | ((with_reducible show wpAny _ _ (call (Value.type "list") _ _) _ _ _); (refine my_list rfl (by k_asm) (by k_asm) (by assumption) ?_; intro _ _ _ _ _ _ _ l1 _; (try k_lt l1))) | (k_unfold; (try dsimp only)) | (k_end; wrow_close) | walk1 | (dsimp only; walk1) | (leave1; try dsimp only) | fail "no step")
  refine wpAny_For ?_ (by intro _; rfl)
  repeat' (first | ((with_reducible show wpAny _ _ (exec (PySem.Stmt.FunctionDef _ _ _ _ _ _ _ _ _ _) _) _ _ _); (refine nestDef_K (by exact rfl) (by exact rfl) (by exact rfl) ?_; refine my_nest (pre := [_, _, _, _, _, _]) (by k_asm) (by k_asm) (by k_asm) (by kn_code) (by exact rfl) (by k_all) (by assumption) (by assumption) (by exact rfl) (List.mem_cons_of_mem _ (List.mem_cons_of_mem _ (List.mem_cons_self ..))) (List.mem_cons_of_mem _ (List.mem_cons_of_mem _ (List.mem_cons_of_mem _ (List.mem_cons_self ..)))) (by (iterate 16 (first | done | assumption | apply And.right)); done) (by (iterate 16 (first | done | assumption | apply And.right)); done) (by exact rfl) ?_; intro _ _ _ _ _ _ _ _ _ _ N' _ _ _ _ _ l1; dsimp only [List.cons_append, List.nil_append] at N' l1; (try k_lt l1))) | (((with_reducible show wpAny _ _ (getMethod (Value.ref _) (PySem.Str.ofString "read") _) _ _ _); (refine kmu_own (by k_asm) (by k_asm) (by k_inst) (by k_is) (by k_is) ?_))) | ((with_reducible show wpAny _ _ (inplaceOp .Add (Value.str _ _) (Value.str _ _)) _ _ _); (refine my_iadd ?_ ?_; (first | (simp only [List.length_append, List.length_replicate, List.length_cons, List.length_nil]; omega) | fail "my_iadd"); intro _ _)) | ((with_reducible show wpAny _ _ (compareOp .Eq (Value.str _ _) (Value.str _ _)) _ _ _); (refine my_eqF (by assumption) ?_)) | ((with_reducible show wpAny _ _ (compareOp .In (Value.str _ _) (Value.str _ _)) _ _ _); (refine my_notin_ws ?_)) | ((with_reducible show wpAny _ _ (truthy (Value.ref _)) _ _ _); (refine my_truthy (by k_asm) (by with_reducible (repeat (first | exact List.mem_cons_self .. | refine List.mem_cons_of_mem _ ?_))) (by assumption) ?_)) | ((with_reducible show wpAny _ _ (call (Value.builtin "list.pop") _ _) _ _ _); (refine my_pop (by k_asm) (by k_asm) (by k_upd) (by assumption) ?_; intro _ _ _)) | ((with_reducible show wpAny _ _ (pyIter (Value.ref _)) _ _ _); first | (refine wpAny_pyIter_enum (by assumption) ?_; intro _) | (refine my_ci_iter (t := _) (by k_asm) (by k_mem) ?_)) | ((with_reducible show wpAny _ _ (call (Value.builtin "iter") _ _) _ _ _); (refine my_iter2 (by k_asm) (by k_asm) (List.Mem.head _) ?_; intro _ _ _ _ l1; (try k_lt l1))) | ((with_reducible show wpAny _ _ (subscriptTail (PySem.Expr.Name _ _) _ (Value.ref _) (Value.ref _)) _ _ _); (refine my_rev (by k_asm) (by k_asm) (List.Mem.head _) (by assumption) (by rw [List.length_map]; assumption) (IsPart.int _ _) ?_ (by with_unfolding_all rfl) (by kmk_pure); intro _ _ _ _ l1; (try k_lt l1))) | ((with_reducible show wpAny _ _ (call (Value.type "list") _ _) _ _ _); (refine my_list rfl (by k_asm) (by k_asm) (by assumption) ?_; intro _ _ _ _ _ _ _ l1 _; (try k_lt l1))) | (k_unfold; (try dsimp only)) | (k_end; wrow_close) | walk1 | (dsimp only; walk1) | (leave1; try dsimp only) | fail "no step")
  refine loop_once ?_
  (rename Fr _ _ _ _ => F8; rename News _ _ _ _ => N8; rename Top _ _ _ _ _ _ => T8; rename Frag.In _ _ => X8)
  refine' my_ci_next (f := 42) N8 (List.Mem.head _) (List.Mem.tail _ (List.Mem.head _)) ?hf ?hfd ?_
  case hf => exact X8.keeps F8.keep _ _ (by k_is)
  case hfd => rfl
  have hz8 : vs9.length ≤ 900 := by rw [hv2.length, List.length_map]; omega
  repeat' (first | ((with_reducible show wpAny _ _ (exec (PySem.Stmt.FunctionDef _ _ _ _ _ _ _ _ _ _) _) _ _ _); (refine nestDef_K (by exact rfl) (by exact rfl) (by exact rfl) ?_; refine my_nest (pre := [_, _, _, _, _, _]) (by k_asm) (by k_asm) (by k_asm) (by kn_code) (by exact rfl) (by k_all) (by assumption) (by assumption) (by exact rfl) (List.mem_cons_of_mem _ (List.mem_cons_of_mem _ (List.mem_cons_self ..))) (List.mem_cons_of_mem _ (List.mem_cons_of_mem _ (List.mem_cons_of_mem _ (List.mem_cons_self ..)))) (by (iterate 16 (first | done | assumption | apply And.right)); done) (by (iterate 16 (first | done | assumption | apply And.right)); done) (by exact rfl) ?_; intro _ _ _ _ _ _ _ _ _ _ N' _ _ _ _ _ l1; dsimp only [List.cons_append, List.nil_append] at N' l1; (try k_lt l1))) | (((with_reducible show wpAny _ _ (getMethod (Value.ref _) (PySem.Str.ofString "read") _) _ _ _); (refine kmu_own (by k_asm) (by k_asm) (by k_inst) (by k_is) (by k_is) ?_))) | ((with_reducible show wpAny _ _ (inplaceOp .Add (Value.str _ _) (Value.str _ _)) _ _ _); (refine my_iadd ?_ ?_; (first | (simp only [List.length_append, List.length_replicate, List.length_cons, List.length_nil]; omega) | fail "my_iadd"); intro _ _)) | ((with_reducible show wpAny _ _ (compareOp .Eq (Value.str _ _) (Value.str _ _)) _ _ _); (refine my_eqF (by assumption) ?_)) | ((with_reducible show wpAny _ _ (compareOp .In (Value.str _ _) (Value.str _ _)) _ _ _); (refine my_notin_ws ?_)) | ((with_reducible show wpAny _ _ (truthy (Value.ref _)) _ _ _); (refine my_truthy (by k_asm) (by with_reducible (repeat (first | exact List.mem_cons_self .. | refine List.mem_cons_of_mem _ ?_))) (by assumption) ?_)) | ((with_reducible show wpAny _ _ (call (Value.builtin "list.pop") _ _) _ _ _); (refine my_pop (by k_asm) (by k_asm) (by k_upd) (by assumption) ?_; intro _ _ _)) | ((with_reducible show wpAny _ _ (pyIter (Value.ref _)) _ _ _); first | (refine wpAny_pyIter_enum (by assumption) ?_; intro _) | (refine my_ci_iter (t := _) (by k_asm) (by k_mem) ?_)) | ((with_reducible show wpAny _ _ (call (Value.builtin "iter") _ _) _ _ _); (refine my_iter2 (by k_asm) (by k_asm) (List.Mem.head _) ?_; intro _ _ _ _ l1; (try k_lt l1))) | ((with_reducible show wpAny _ _ (subscriptTail (PySem.Expr.Name _ _) _ (Value.ref _) (Value.ref _)) _ _ _); (refine my_rev (by k_asm) (by k_asm) (List.Mem.head _) (by assumption) (by rw [List.length_map]; assumption) (IsPart.int _ _) ?_ (by with_unfolding_all rfl) (by kmk_pure); intro _ _ _ _ l1; (try k_lt l1))) | ((with_reducible show wpAny _ _ (call (Value.type "list") _ _) _ _ _); (refine my_list rfl (by k_asm) (by k_asm) (by assumption) ?_; intro _ _ _ _ _ _ _ l1 _; (try k_lt l1))) | (k_unfold; (try dsimp only)) | (k_end; wrow_close) | walk1 | (dsimp only; walk1) | (leave1; try dsimp only) | fail "no step")
  · exact fun e => by simpa using S_inj e
  · (rename News _ _ _ _ => N7)
    exact (N7 _ (List.Mem.head _)).1
  refine wpAny_For ?_ (by intro _; rfl)
  repeat' (first | ((with_reducible show wpAny _ _ (exec (PySem.Stmt.FunctionDef _ _ _ _ _ _ _ _ _ _) _) _ _ _); (refine nestDef_K (by exact rfl) (by exact rfl) (by exact rfl) ?_; refine my_nest (pre := [_, _, _, _, _, _]) (by k_asm) (by k_asm) (by k_asm) (by kn_code) (by exact rfl) (by k_all) (by assumption) (by assumption) (by exact rfl) (List.mem_cons_of_mem _ (List.mem_cons_of_mem _ (List.mem_cons_self ..))) (List.mem_cons_of_mem _ (List.mem_cons_of_mem _ (List.mem_cons_of_mem _ (List.mem_cons_self ..)))) (by (iterate 16 (first | done | assumption | apply And.right)); done) (by (iterate 16 (first | done | assumption | apply And.right)); done) (by exact rfl) ?_; intro _ _ _ _ _ _ _ _ _ _ N' _ _ _ _ _ l1; dsimp only [List.cons_append, List.nil_append] at N' l1; (try k_lt l1))) | (((with_reducible show wpAny _ _ (getMethod (Value.ref _) (PySem.Str.ofString "read") _) _ _ _); (refine kmu_own (by k_asm) (by k_asm) (by k_inst) (by k_is) (by k_is) ?_))) | ((with_reducible show wpAny _ _ (inplaceOp .Add (Value.str _ _) (Value.str _ _)) _ _ _); (refine my_iadd ?_ ?_; (first | (simp only [List.length_append, List.length_replicate, List.length_cons, List.length_nil]; omega) | fail "my_iadd"); intro _ _)) | ((with_reducible show wpAny _ _ (compareOp .Eq (Value.str _ _) (Value.str _ _)) _ _ _); (refine my_eqF (by assumption) ?_)) | ((with_reducible show wpAny _ _ (compareOp .In (Value.str _ _) (Value.str _ _)) _ _ _); (refine my_notin_ws ?_)) | ((with_reducible show wpAny _ _ (truthy (Value.ref _)) _ _ _); (refine my_truthy (by k_asm) (by with_reducible (repeat (first | exact List.mem_cons_self .. | refine List.mem_cons_of_mem _ ?_))) (by assumption) ?_)) | ((with_reducible show wpAny _ _ (call (Value.builtin "list.pop") _ _) _ _ _); (refine my_pop (by k_asm) (by k_asm) (by k_upd) (by assumption) ?_; intro _ _ _)) | ((with_reducible show wpAny _ _ (pyIter (Value.ref _)) _ _ _); first | (refine wpAny_pyIter_enum (by assumption) ?_; intro _) | (refine my_ci_iter (t := _) (by k_asm) (by k_mem) ?_)) | ((with_reducible show wpAny _ _ (call (Value.builtin "iter") _ _) _ _ _); (refine my_iter2 (by k_asm) (by k_asm) (List.Mem.head _) ?_; intro _ _ _ _ l1; (try k_lt l1))) | ((with_reducible show wpAny _ _ (subscriptTail (PySem.Expr.Name _ _) _ (Value.ref _) (Value.ref _)) _ _ _); (refine my_rev (by k_asm) (by k_asm) (List.Mem.head _) (by assumption) (by rw [List.length_map]; assumption) (IsPart.int _ _) ?_ (by with_unfolding_all rfl) (by kmk_pure); intro _ _ _ _ l1; (try k_lt l1))) | ((with_reducible show wpAny _ _ (call (Value.type "list") _ _) _ _ _); (refine my_list rfl (by k_asm) (by k_asm) (by assumption) ?_; intro _ _ _ _ _ _ _ l1 _; (try k_lt l1))) | (k_unfold; (try dsimp only)) | (k_end; wrow_close) | walk1 | (dsimp only; walk1) | (leave1; try dsimp only) | fail "no step")
  (rename Fr _ _ _ _ => F8; rename News _ _ _ _ => N8; rename Top _ _ _ _ _ _ => T8; rename Frag.In _ _ => X8)
  have hS0 : Str.ofString "" = S [] := by decide +kernel
  rw [hS0] at F8
  refine' tok_loop (D := Dr9) (r0 := y) (word := lexF false y) ?hx ?hp F8 N8 ?U hA hv2 hT ?hl rfl ?m1 ?m2 ?m3 ?next ?turn ?hR
  case hx => rfl
  case hp => rfl
  case U => k_updF
  case hl => omega
  case m1 => with_unfolding_all rfl
  case m2 => with_unfolding_all rfl
  case m3 => with_unfolding_all rfl
  case next =>
    clear F8 N8
    rintro c r1 vs v n m₁ s₁ ⟨h3, tk3, rfl⟩ hl3 hc3 hv3 hvs3 F N
    obtain ⟨u3, rfl⟩ := strs_one hv3
    have hz3 : vs.length ≤ 900 := by rw [hvs3.length, List.length_map]; omega
    have hn3 := nl_no hc3
    dsimp only at N
    refine' my_ci_next (f := 42) N (List.Mem.head _) (List.Mem.tail _ (List.Mem.head _)) ?hf ?hfd ?_
    case hf => exact X8.keeps F.keep _ _ (by k_is)
    case hfd => rfl
    repeat' (first | ((with_reducible show wpAny _ _ (exec (PySem.Stmt.FunctionDef _ _ _ _ _ _ _ _ _ _) _) _ _ _); (refine nestDef_K (by exact rfl) (by exact rfl) (by exact rfl) ?_; refine my_nest (pre := [_, _, _, _, _, _]) (by k_asm) (by k_asm) (by k_asm) (by kn_code) (by exact rfl) (by k_all) (by assumption) (by assumption) (by exact rfl) (List.mem_cons_of_mem _ (List.mem_cons_of_mem _ (List.mem_cons_self ..))) (List.mem_cons_of_mem _ (List.mem_cons_of_mem _ (List.mem_cons_of_mem _ (List.mem_cons_self ..)))) (by (iterate 16 (first | done | assumption | apply And.right)); done) (by (iterate 16 (first | done | assumption | apply And.right)); done) (by exact rfl) ?_; intro _ _ _ _ _ _ _ _ _ _ N' _ _ _ _ _ l1; dsimp only [List.cons_append, List.nil_append] at N' l1; (try k_lt l1))) | (((with_reducible show wpAny _ _ (getMethod (Value.ref _) (PySem.Str.ofString "read") _) _ _ _); (refine kmu_own (by k_asm) (by k_asm) (by k_inst) (by k_is) (by k_is) ?_))) | ((with_reducible show wpAny _ _ (inplaceOp .Add (Value.str _ _) (Value.str _ _)) _ _ _); (refine my_iadd ?_ ?_; (first | (simp only [List.length_append, List.length_replicate, List.length_cons, List.length_nil]; omega) | fail "my_iadd"); intro _ _)) | ((with_reducible show wpAny _ _ (compareOp .Eq (Value.str _ _) (Value.str _ _)) _ _ _); (refine my_eqF (by assumption) ?_)) | ((with_reducible show wpAny _ _ (compareOp .In (Value.str _ _) (Value.str _ _)) _ _ _); (refine my_notin_ws ?_)) | ((with_reducible show wpAny _ _ (truthy (Value.ref _)) _ _ _); (refine my_truthy (by k_asm) (by with_reducible (repeat (first | exact List.mem_cons_self .. | refine List.mem_cons_of_mem _ ?_))) (by assumption) ?_)) | ((with_reducible show wpAny _ _ (call (Value.builtin "list.pop") _ _) _ _ _); (refine my_pop (by k_asm) (by k_asm) (by k_upd) (by assumption) ?_; intro _ _ _)) | ((with_reducible show wpAny _ _ (pyIter (Value.ref _)) _ _ _); first | (refine wpAny_pyIter_enum (by assumption) ?_; intro _) | (refine my_ci_iter (t := _) (by k_asm) (by k_mem) ?_)) | ((with_reducible show wpAny _ _ (call (Value.builtin "iter") _ _) _ _ _); (refine my_iter2 (by k_asm) (by k_asm) (List.Mem.head _) ?_; intro _ _ _ _ l1; (try k_lt l1))) | ((with_reducible show wpAny _ _ (subscriptTail (PySem.Expr.Name _ _) _ (Value.ref _) (Value.ref _)) _ _ _); (refine my_rev (by k_asm) (by k_asm) (List.Mem.head _) (by assumption) (by rw [List.length_map]; assumption) (IsPart.int _ _) ?_ (by with_unfolding_all rfl) (by kmk_pure); intro _ _ _ _ l1; (try k_lt l1))) | ((with_reducible show wpAny _ _ (call (Value.type "list") _ _) _ _ _); (refine my_list rfl (by k_asm) (by k_asm) (by assumption) ?_; intro _ _ _ _ _ _ _ l1 _; (try k_lt l1))) | (k_unfold; (try dsimp only)) | (k_end; wrow_close) | walk1 | (dsimp only; walk1) | (leave1; try dsimp only) | fail "no step")
    · exact fun e => by simpa using S_inj e
    · (rename News _ _ _ _ => N7)
      exact (N7 _ (List.Mem.head _)).1
    · (rename Fr _ _ _ _ => F7; rename News _ _ _ _ => N7)
      exact readEnd_of (vs := vs) F7 N7 rfl hvs3
  case turn =>
    clear F8 N8
    rintro c r1 tok vs n m₁ u3 u4 s₁ ⟨h3, tk3, rfl⟩ hl3 ht3 hc3 hA3 hr3 hvs3 F N
    dsimp only at N
    by_cases h34 : c = 34
    · subst h34
      repeat' (first | ((with_reducible show wpAny _ _ (exec (PySem.Stmt.FunctionDef _ _ _ _ _ _ _ _ _ _) _) _ _ _); (refine nestDef_K (by exact rfl) (by exact rfl) (by exact rfl) ?_; refine my_nest (pre := [_, _, _, _, _, _]) (by k_asm) (by k_asm) (by k_asm) (by kn_code) (by exact rfl) (by k_all) (by assumption) (by assumption) (by exact rfl) (List.mem_cons_of_mem _ (List.mem_cons_of_mem _ (List.mem_cons_self ..))) (List.mem_cons_of_mem _ (List.mem_cons_of_mem _ (List.mem_cons_of_mem _ (List.mem_cons_self ..)))) (by (iterate 16 (first | done | assumption | apply And.right)); done) (by (iterate 16 (first | done | assumption | apply And.right)); done) (by exact rfl) ?_; intro _ _ _ _ _ _ _ _ _ _ N' _ _ _ _ _ l1; dsimp only [List.cons_append, List.nil_append] at N' l1; (try k_lt l1))) | (((with_reducible show wpAny _ _ (getMethod (Value.ref _) (PySem.Str.ofString "read") _) _ _ _); (refine kmu_own (by k_asm) (by k_asm) (by k_inst) (by k_is) (by k_is) ?_))) | ((with_reducible show wpAny _ _ (inplaceOp .Add (Value.str _ _) (Value.str _ _)) _ _ _); (refine my_iadd ?_ ?_; (first | (simp only [List.length_append, List.length_replicate, List.length_cons, List.length_nil]; omega) | fail "my_iadd"); intro _ _)) | ((with_reducible show wpAny _ _ (compareOp .Eq (Value.str _ _) (Value.str _ _)) _ _ _); (refine my_eqF (by assumption) ?_)) | ((with_reducible show wpAny _ _ (compareOp .In (Value.str _ _) (Value.str _ _)) _ _ _); (refine my_notin_ws ?_)) | ((with_reducible show wpAny _ _ (truthy (Value.ref _)) _ _ _); (refine my_truthy (by k_asm) (by with_reducible (repeat (first | exact List.mem_cons_self .. | refine List.mem_cons_of_mem _ ?_))) (by assumption) ?_)) | ((with_reducible show wpAny _ _ (call (Value.builtin "list.pop") _ _) _ _ _); (refine my_pop (by k_asm) (by k_asm) (by k_upd) (by assumption) ?_; intro _ _ _)) | ((with_reducible show wpAny _ _ (pyIter (Value.ref _)) _ _ _); first | (refine wpAny_pyIter_enum (by assumption) ?_; intro _) | (refine my_ci_iter (t := _) (by k_asm) (by k_mem) ?_)) | ((with_reducible show wpAny _ _ (call (Value.builtin "iter") _ _) _ _ _); (refine my_iter2 (by k_asm) (by k_asm) (List.Mem.head _) ?_; intro _ _ _ _ l1; (try k_lt l1))) | ((with_reducible show wpAny _ _ (subscriptTail (PySem.Expr.Name _ _) _ (Value.ref _) (Value.ref _)) _ _ _); (refine my_rev (by k_asm) (by k_asm) (List.Mem.head _) (by assumption) (by rw [List.length_map]; assumption) (IsPart.int _ _) ?_ (by with_unfolding_all rfl) (by kmk_pure); intro _ _ _ _ l1; (try k_lt l1))) | ((with_reducible show wpAny _ _ (call (Value.type "list") _ _) _ _ _); (refine my_list rfl (by k_asm) (by k_asm) (by assumption) ?_; intro _ _ _ _ _ _ _ l1 _; (try k_lt l1))) | (k_unfold; (try dsimp only)) | (k_end; wrow_close) | walk1 | (dsimp only; walk1) | (leave1; try dsimp only) | fail "no step")
      (rename Fr _ _ _ _ => F7; rename News _ _ _ _ => N7)
      exact tokEnd_ret (vs := vs) F7 N7 rfl hvs3
    · by_cases h92 : c = 92
      · subst h92
        obtain ⟨c2, r2, rfl⟩ := hr3 rfl
        obtain ⟨v, vs', rfl, hv4, hvs4⟩ := strs_cons hvs3
        obtain ⟨u5, rfl⟩ := strs_one hv4
        have hn4 := nl_no (hA3 c2 (List.mem_cons_self ..))
        have hq4 : (S [92] == Str.ofString "\"") = false := q_no (by decide)
        have hz4 : vs'.length ≤ 900 := by rw [hvs4.length, List.length_map]; rw [List.length_cons] at hl3; omega
        repeat' (first | ((with_reducible show wpAny _ _ (exec (PySem.Stmt.FunctionDef _ _ _ _ _ _ _ _ _ _) _) _ _ _); (refine nestDef_K (by exact rfl) (by exact rfl) (by exact rfl) ?_; refine my_nest (pre := [_, _, _, _, _, _]) (by k_asm) (by k_asm) (by k_asm) (by kn_code) (by exact rfl) (by k_all) (by assumption) (by assumption) (by exact rfl) (List.mem_cons_of_mem _ (List.mem_cons_of_mem _ (List.mem_cons_self ..))) (List.mem_cons_of_mem _ (List.mem_cons_of_mem _ (List.mem_cons_of_mem _ (List.mem_cons_self ..)))) (by (iterate 16 (first | done | assumption | apply And.right)); done) (by (iterate 16 (first | done | assumption | apply And.right)); done) (by exact rfl) ?_; intro _ _ _ _ _ _ _ _ _ _ N' _ _ _ _ _ l1; dsimp only [List.cons_append, List.nil_append] at N' l1; (try k_lt l1))) | (((with_reducible show wpAny _ _ (getMethod (Value.ref _) (PySem.Str.ofString "read") _) _ _ _); (refine kmu_own (by k_asm) (by k_asm) (by k_inst) (by k_is) (by k_is) ?_))) | ((with_reducible show wpAny _ _ (inplaceOp .Add (Value.str _ _) (Value.str _ _)) _ _ _); (refine my_iadd ?_ ?_; (first | (simp only [List.length_append, List.length_replicate, List.length_cons, List.length_nil]; omega) | fail "my_iadd"); intro _ _)) | ((with_reducible show wpAny _ _ (compareOp .Eq (Value.str _ _) (Value.str _ _)) _ _ _); (refine my_eqF (by assumption) ?_)) | ((with_reducible show wpAny _ _ (compareOp .In (Value.str _ _) (Value.str _ _)) _ _ _); (refine my_notin_ws ?_)) | ((with_reducible show wpAny _ _ (truthy (Value.ref _)) _ _ _); (refine my_truthy (by k_asm) (by with_reducible (repeat (first | exact List.mem_cons_self .. | refine List.mem_cons_of_mem _ ?_))) (by assumption) ?_)) | ((with_reducible show wpAny _ _ (call (Value.builtin "list.pop") _ _) _ _ _); (refine my_pop (by k_asm) (by k_asm) (by k_upd) (by assumption) ?_; intro _ _ _)) | ((with_reducible show wpAny _ _ (pyIter (Value.ref _)) _ _ _); first | (refine wpAny_pyIter_enum (by assumption) ?_; intro _) | (refine my_ci_iter (t := _) (by k_asm) (by k_mem) ?_)) | ((with_reducible show wpAny _ _ (call (Value.builtin "iter") _ _) _ _ _); (refine my_iter2 (by k_asm) (by k_asm) (List.Mem.head _) ?_; intro _ _ _ _ l1; (try k_lt l1))) | ((with_reducible show wpAny _ _ (subscriptTail (PySem.Expr.Name _ _) _ (Value.ref _) (Value.ref _)) _ _ _); (refine my_rev (by k_asm) (by k_asm) (List.Mem.head _) (by assumption) (by rw [List.length_map]; assumption) (IsPart.int _ _) ?_ (by with_unfolding_all rfl) (by kmk_pure); intro _ _ _ _ l1; (try k_lt l1))) | ((with_reducible show wpAny _ _ (call (Value.type "list") _ _) _ _ _); (refine my_list rfl (by k_asm) (by k_asm) (by assumption) ?_; intro _ _ _ _ _ _ _ l1 _; (try k_lt l1))) | (k_unfold; (try dsimp only)) | (k_end; wrow_close) | walk1 | (dsimp only; walk1) | (leave1; try dsimp only) | fail "no step")
        (rename Fr _ _ _ _ => F7; rename News _ _ _ _ => N7)
        exact tokEnd_next (vs := vs') F7 N7 rfl hvs4 (by with_unfolding_all rfl) (by with_unfolding_all rfl) (by with_unfolding_all rfl) rfl (.inl ⟨rfl, c2, rfl, rfl⟩)
      · have hq4 := q_no h34
        have hb4 := b_no h92
        repeat' (first | ((with_reducible show wpAny _ _ (exec (PySem.Stmt.FunctionDef _ _ _ _ _ _ _ _ _ _) _) _ _ _); (refine nestDef_K (by exact rfl) (by exact rfl) (by exact rfl) ?_; refine my_nest (pre := [_, _, _, _, _, _]) (by k_asm) (by k_asm) (by k_asm) (by kn_code) (by exact rfl) (by k_all) (by assumption) (by assumption) (by exact rfl) (List.mem_cons_of_mem _ (List.mem_cons_of_mem _ (List.mem_cons_self ..))) (List.mem_cons_of_mem _ (List.mem_cons_of_mem _ (List.mem_cons_of_mem _ (List.mem_cons_self ..)))) (by (iterate 16 (first | done | assumption | apply And.right)); done) (by (iterate 16 (first | done | assumption | apply And.right)); done) (by exact rfl) ?_; intro _ _ _ _ _ _ _ _ _ _ N' _ _ _ _ _ l1; dsimp only [List.cons_append, List.nil_append] at N' l1; (try k_lt l1))) | (((with_reducible show wpAny _ _ (getMethod (Value.ref _) (PySem.Str.ofString "read") _) _ _ _); (refine kmu_own (by k_asm) (by k_asm) (by k_inst) (by k_is) (by k_is) ?_))) | ((with_reducible show wpAny _ _ (inplaceOp .Add (Value.str _ _) (Value.str _ _)) _ _ _); (refine my_iadd ?_ ?_; (first | (simp only [List.length_append, List.length_replicate, List.length_cons, List.length_nil]; omega) | fail "my_iadd"); intro _ _)) | ((with_reducible show wpAny _ _ (compareOp .Eq (Value.str _ _) (Value.str _ _)) _ _ _); (refine my_eqF (by assumption) ?_)) | ((with_reducible show wpAny _ _ (compareOp .In (Value.str _ _) (Value.str _ _)) _ _ _); (refine my_notin_ws ?_)) | ((with_reducible show wpAny _ _ (truthy (Value.ref _)) _ _ _); (refine my_truthy (by k_asm) (by with_reducible (repeat (first | exact List.mem_cons_self .. | refine List.mem_cons_of_mem _ ?_))) (by assumption) ?_)) | ((with_reducible show wpAny _ _ (call (Value.builtin "list.pop") _ _) _ _ _); (refine my_pop (by k_asm) (by k_asm) (by k_upd) (by assumption) ?_; intro _ _ _)) | ((with_reducible show wpAny _ _ (pyIter (Value.ref _)) _ _ _); first | (refine wpAny_pyIter_enum (by assumption) ?_; intro _) | (refine my_ci_iter (t := _) (by k_asm) (by k_mem) ?_)) | ((with_reducible show wpAny _ _ (call (Value.builtin "iter") _ _) _ _ _); (refine my_iter2 (by k_asm) (by k_asm) (List.Mem.head _) ?_; intro _ _ _ _ l1; (try k_lt l1))) | ((with_reducible show wpAny _ _ (subscriptTail (PySem.Expr.Name _ _) _ (Value.ref _) (Value.ref _)) _ _ _); (refine my_rev (by k_asm) (by k_asm) (List.Mem.head _) (by assumption) (by rw [List.length_map]; assumption) (IsPart.int _ _) ?_ (by with_unfolding_all rfl) (by kmk_pure); intro _ _ _ _ l1; (try k_lt l1))) | ((with_reducible show wpAny _ _ (call (Value.type "list") _ _) _ _ _); (refine my_list rfl (by k_asm) (by k_asm) (by assumption) ?_; intro _ _ _ _ _ _ _ l1 _; (try k_lt l1))) | (k_unfold; (try dsimp only)) | (k_end; wrow_close) | walk1 | (dsimp only; walk1) | (leave1; try dsimp only) | fail "no step")
        (rename Fr _ _ _ _ => F7; rename News _ _ _ _ => N7)
        exact tokEnd_next (vs := vs) F7 N7 rfl hvs3 (by with_unfolding_all rfl) (by with_unfolding_all rfl) (by with_unfolding_all rfl) rfl (.inr ⟨h92, h34, rfl, rfl⟩)
  case hR =>
    clear F8 N8
    intro h3 tk3 vs n m3 u3 r hr3 F N hvs3
    dsimp only at N ⊢
    repeat' (first | ((with_reducible show wpAny _ _ (exec (PySem.Stmt.FunctionDef _ _ _ _ _ _ _ _ _ _) _) _ _ _); (refine nestDef_K (by exact rfl) (by exact rfl) (by exact rfl) ?_; refine my_nest (pre := [_, _, _, _, _, _]) (by k_asm) (by k_asm) (by k_asm) (by kn_code) (by exact rfl) (by k_all) (by assumption) (by assumption) (by exact rfl) (List.mem_cons_of_mem _ (List.mem_cons_of_mem _ (List.mem_cons_self ..))) (List.mem_cons_of_mem _ (List.mem_cons_of_mem _ (List.mem_cons_of_mem _ (List.mem_cons_self ..)))) (by (iterate 16 (first | done | assumption | apply And.right)); done) (by (iterate 16 (first | done | assumption | apply And.right)); done) (by exact rfl) ?_; intro _ _ _ _ _ _ _ _ _ _ N' _ _ _ _ _ l1; dsimp only [List.cons_append, List.nil_append] at N' l1; (try k_lt l1))) | (((with_reducible show wpAny _ _ (getMethod (Value.ref _) (PySem.Str.ofString "read") _) _ _ _); (refine kmu_own (by k_asm) (by k_asm) (by k_inst) (by k_is) (by k_is) ?_))) | ((with_reducible show wpAny _ _ (inplaceOp .Add (Value.str _ _) (Value.str _ _)) _ _ _); (refine my_iadd ?_ ?_; (first | (simp only [List.length_append, List.length_replicate, List.length_cons, List.length_nil]; omega) | fail "my_iadd"); intro _ _)) | ((with_reducible show wpAny _ _ (compareOp .Eq (Value.str _ _) (Value.str _ _)) _ _ _); (refine my_eqF (by assumption) ?_)) | ((with_reducible show wpAny _ _ (compareOp .In (Value.str _ _) (Value.str _ _)) _ _ _); (refine my_notin_ws ?_)) | ((with_reducible show wpAny _ _ (truthy (Value.ref _)) _ _ _); (refine my_truthy (by k_asm) (by with_reducible (repeat (first | exact List.mem_cons_self .. | refine List.mem_cons_of_mem _ ?_))) (by assumption) ?_)) | ((with_reducible show wpAny _ _ (call (Value.builtin "list.pop") _ _) _ _ _); (refine my_pop (by k_asm) (by k_asm) (by k_upd) (by assumption) ?_; intro _ _ _)) | ((with_reducible show wpAny _ _ (pyIter (Value.ref _)) _ _ _); first | (refine wpAny_pyIter_enum (by assumption) ?_; intro _) | (refine my_ci_iter (t := _) (by k_asm) (by k_mem) ?_)) | ((with_reducible show wpAny _ _ (call (Value.builtin "iter") _ _) _ _ _); (refine my_iter2 (by k_asm) (by k_asm) (List.Mem.head _) ?_; intro _ _ _ _ l1; (try k_lt l1))) | ((with_reducible show wpAny _ _ (subscriptTail (PySem.Expr.Name _ _) _ (Value.ref _) (Value.ref _)) _ _ _); (refine my_rev (by k_asm) (by k_asm) (List.Mem.head _) (by assumption) (by rw [List.length_map]; assumption) (IsPart.int _ _) ?_ (by with_unfolding_all rfl) (by kmk_pure); intro _ _ _ _ l1; (try k_lt l1))) | ((with_reducible show wpAny _ _ (call (Value.type "list") _ _) _ _ _); (refine my_list rfl (by k_asm) (by k_asm) (by assumption) ?_; intro _ _ _ _ _ _ _ l1 _; (try k_lt l1))) | (k_unfold; (try dsimp only)) | (k_end; wrow_close) | walk1 | (dsimp only; walk1) | (leave1; try dsimp only) | fail "no step")
    (rename News _ _ _ _ => N7)
    have hb7 := lex_len y false
    refine' my_len (i := ((r.length : Nat) : Int)) N7 ?mm ?ll ?bb ?_
    case mm => with_reducible (repeat (first | exact List.mem_cons_self .. | refine List.mem_cons_of_mem _ ?_))
    case ll => rw [List.length_reverse, hvs3.length, List.length_map]
    case bb => omega
    rw [hr3]
    repeat' (first | ((with_reducible show wpAny _ _ (exec (PySem.Stmt.FunctionDef _ _ _ _ _ _ _ _ _ _) _) _ _ _); (refine nestDef_K (by exact rfl) (by exact rfl) (by exact rfl) ?_; refine my_nest (pre := [_, _, _, _, _, _]) (by k_asm) (by k_asm) (by k_asm) (by kn_code) (by exact rfl) (by k_all) (by assumption) (by assumption) (by exact rfl) (List.mem_cons_of_mem _ (List.mem_cons_of_mem _ (List.mem_cons_self ..))) (List.mem_cons_of_mem _ (List.mem_cons_of_mem _ (List.mem_cons_of_mem _ (List.mem_cons_self ..)))) (by (iterate 16 (first | done | assumption | apply And.right)); done) (by (iterate 16 (first | done | assumption | apply And.right)); done) (by exact rfl) ?_; intro _ _ _ _ _ _ _ _ _ _ N' _ _ _ _ _ l1; dsimp only [List.cons_append, List.nil_append] at N' l1; (try k_lt l1))) | (((with_reducible show wpAny _ _ (getMethod (Value.ref _) (PySem.Str.ofString "read") _) _ _ _); (refine kmu_own (by k_asm) (by k_asm) (by k_inst) (by k_is) (by k_is) ?_))) | ((with_reducible show wpAny _ _ (inplaceOp .Add (Value.str _ _) (Value.str _ _)) _ _ _); (refine my_iadd ?_ ?_; (first | (simp only [List.length_append, List.length_replicate, List.length_cons, List.length_nil]; omega) | fail "my_iadd"); intro _ _)) | ((with_reducible show wpAny _ _ (compareOp .Eq (Value.str _ _) (Value.str _ _)) _ _ _); (refine my_eqF (by assumption) ?_)) | ((with_reducible show wpAny _ _ (compareOp .In (Value.str _ _) (Value.str _ _)) _ _ _); (refine my_notin_ws ?_)) | ((with_reducible show wpAny _ _ (truthy (Value.ref _)) _ _ _); (refine my_truthy (by k_asm) (by with_reducible (repeat (first | exact List.mem_cons_self .. | refine List.mem_cons_of_mem _ ?_))) (by assumption) ?_)) | ((with_reducible show wpAny _ _ (call (Value.builtin "list.pop") _ _) _ _ _); (refine my_pop (by k_asm) (by k_asm) (by k_upd) (by assumption) ?_; intro _ _ _)) | ((with_reducible show wpAny _ _ (pyIter (Value.ref _)) _ _ _); first | (refine wpAny_pyIter_enum (by assumption) ?_; intro _) | (refine my_ci_iter (t := _) (by k_asm) (by k_mem) ?_)) | ((with_reducible show wpAny _ _ (call (Value.builtin "iter") _ _) _ _ _); (refine my_iter2 (by k_asm) (by k_asm) (List.Mem.head _) ?_; intro _ _ _ _ l1; (try k_lt l1))) | ((with_reducible show wpAny _ _ (subscriptTail (PySem.Expr.Name _ _) _ (Value.ref _) (Value.ref _)) _ _ _); (refine my_rev (by k_asm) (by k_asm) (List.Mem.head _) (by assumption) (by rw [List.length_map]; assumption) (IsPart.int _ _) ?_ (by with_unfolding_all rfl) (by kmk_pure); intro _ _ _ _ l1; (try k_lt l1))) | ((with_reducible show wpAny _ _ (call (Value.type "list") _ _) _ _ _); (refine my_list rfl (by k_asm) (by k_asm) (by assumption) ?_; intro _ _ _ _ _ _ _ l1 _; (try k_lt l1))) | (k_unfold; (try dsimp only)) | (k_end; wrow_close) | walk1 | (dsimp only; walk1) | (leave1; try dsimp only) | fail "no step")
    (rename Fr _ _ _ _ => F7; rename News _ _ _ _ => N7)
    refine' hret _ _ _ _ _ _ _ _ _ _ F7 (news_sub N7 ?sub) ?d1 ?d2
    case d1 => assumption
    case d2 => assumption
    case sub =>
      intro q hq
      rcases List.mem_cons.mp hq with e | hq
      · rw [e]; (with_reducible (repeat (first | exact List.mem_cons_self .. | refine List.mem_cons_of_mem _ ?_)))
      rcases List.mem_cons.mp hq with e | hq
      · rw [e]; (with_reducible (repeat (first | exact List.mem_cons_self .. | refine List.mem_cons_of_mem _ ?_)))
      rcases List.mem_cons.mp hq with e | hq
      · rw [e]; (with_reducible (repeat (first | exact List.mem_cons_self .. | refine List.mem_cons_of_mem _ ?_)))
      · simp only [List.mem_cons, hq, or_true]

end
end Mine
end

section
open PySem PySem.W PyProof.Rows PySem.Calls PySem.Spec
set_option Elab.async false
set_option maxRecDepth 100000
set_option maxHeartbeats 16000000
namespace Mine
theorem law_all : PySem.Challenge.rw_tl0004_01.Holds := hd (by
  k_fill
  intro w s₀ s₁ mg mb G Y fa o pm cd doc dV kV ho hd cd9 hD hmg hg args vals as hpre hlay hrd hwl hlo
  have KX := km_in_of Y
  km_tabs Y
  have X := (Ground.X G).1
  have V := (Ground.X G).2
  refine Ground.open G ?_
  intro T B D TE TW
  try (refine guard_noD D (by decide +kernel) ?_; clear D)
  km_lay T hmg ho hd cd9
  clear hmg
  wrow_args hpre hlay hrd hwl hlo
  have he := Dflts.none hD rfl
  subst he
  refine C_enter hT9 (fun _ => rfl) (by first | with_unfolding_all rfl | kernel_rfl | (simp [ClaimW.post]; done) | trace_state) (by decide) ho hd (Top.nolimit T) cd9 (BindsTo.of_eq rfl) (locs rfl) fun h₁ F => ?_
  w_top on
  w_binds F
  have N0 := (News.nil : News _ _ _ []).at F
  have hbare9 : AllBare s₁.gens := AllBare.of_eq hg
  clear hd
  kn_ghosts F T
  k_drop
  refine C_prefix (xs := [_, _]) (ys := [_, _, _, _]) ?_
  intro P hP
  (rename Fr _ _ _ _ => F8; rename News _ _ _ _ => N8; rename Below _ _ _ _ => B8; rename Top _ _ _ _ _ _ => T8; rename Frag.In _ _ => X8)
  have key : ∀ (h : Heap) (tk : Nat) (m : Str → Option Value) (Dc : Addr) (vs : List Value) (ns : List Int) (nn : Nat), Fr (ghostOf s₁.heap [(127, 123)]) s₁.heap.objs.size h (fun y => if y = Str.ofString "cells" then some (.ref Dc) else m y) →
      News (ghostOf s₁.heap [(127, 123)]) s₁.heap.objs.size h [(Dc, W.listOf vs.toArray nn), (123, tabObj #[])] → IntsAre vs ns → ns.length = 12 → P { s₁ with heap := h, toks := tk } := by
    intro h tk m Dc vs ns nn F9 N9 hI9 hn9
    refine hP _ ?_
    clear hP F8 N8
    refine C_prefix (xs := [_, _]) (ys := [_, _]) ?_
    intro P hP
    iterate 14 (first | walk1 | (dsimp only; walk1))
    refine comp_inv (ItP ns) rfl (by decide) (by decide) rfl (by decide) rfl (ItP.keeps ns) (ItP.start ns) ?_
    walk1
    refine ⟨Dc, vs.toArray, rfl, isList_of (n := nn) (by k_asm) (by k_mem), by rw [List.size_toArray, hI9.length, hn9]; decide, ?_, ?_⟩
    · intro i v s₂ m₂ ys hv hn hm hsz hPi
      obtain ⟨a, t, rfl, hat⟩ := ints_at hI9 (i := i) (by simpa using hv)
      refine wpAny_mono (Q := ItEnd s₂ a) (E := fun _ _ => False) ?_ (fun _ _ z => hPi.step hsz hat z) (fun _ _ z => z.elim)
      clear hv hPi hat
      repeat' (first | ((with_reducible show wpAny _ _ (subscriptTail (PySem.Expr.Name _ _) _ (Value.ref _) (Value.ref _)) _ _ _); (refine kmk_slice_ints (by k_asm) (by k_asm) (by kmk_list) (by kmk_part) (by kmk_part) (by l_ints) (by exact kmk_from (by l_ints) (by omega)) (by kmk_len) ?_ (by with_unfolding_all rfl) (by kmk_pure) (by kmk_size); intro _ _ _ _ _ l1 _ _ _; (try k_lt l1))) | ((with_reducible show wpAny _ _ (subscriptTail (PySem.Expr.List _ _) _ (Value.ref _) (Value.ref _)) _ _ _); (refine kba_turn (value' := PySem.Expr.Name (PySem.Str.ofString "_") ⟨0, 0, 0, 0⟩) (fun _ => rfl) ?_)) | ((with_reducible show wpAny _ _ (call (Value.ref _) _ _) _ _ _); first | (refine walk_all _ _ _ _ _ _ (by assumption) _ _ _ _ _ _ _ _ _ _ _ _ _ _ _ (by k_asm) (by k_asm) (by assumption) (by k_asm) (by assumption) (by assumption) (by assumption) (by assumption) (by assumption) (by assumption) (by assumption) (by assumption) (by assumption) ?_; intro D' t1' t2' t3' h' tk' F' N') | (refine strip_all _ _ (by omega) (by (rw [S_len]; omega)) (by assumption) _ _ _ _ _ _ _ _ _ _ _ _ _ _ _ (by k_asm) (by k_asm) (by assumption) (by k_asm) (by assumption) (by assumption) (by assumption) (by assumption) ?_; intro _ _ h' tk' _ F' N'; (try rw [(by assumption : outF false _ = _)])) | (refine word_all _ _ _ (by (simp only [List.length_append, List.length_cons, List.length_nil]; omega)) (by (rw [S_len]; simp only [List.length_append, List.length_cons, List.length_nil]; omega)) (by assumption) (by assumption) _ _ _ _ _ _ _ _ _ _ _ _ _ _ _ (by k_asm) (by k_asm) (by assumption) (by k_asm) (by assumption) (by assumption) (by assumption) (by assumption) (by assumption) (by assumption) ?_; intro D' t1' t2' t3' _ _ _ _ h' tk' F' N' _ _; (try rw [(by assumption : lexF false _ = _)] at N'); (try dsimp only at N')) | (refine due_all _ _ (by omega) (by (rw [S_len]; omega)) (by assumption) _ _ _ _ _ _ _ _ _ _ _ _ _ _ _ (by k_asm) (by k_asm) (by assumption) (by k_asm) (by assumption) (by assumption) (by assumption) ?_ ?_ ?_; all_goals (first | (intro hq1; exact absurd (by assumption) hq1) | (intro hq1; exact absurd hq1 (by assumption)) | (intro hq1 hq2; exact absurd (by assumption) hq2) | (intro hq1 hq2; exact absurd hq2 (by assumption)) | intros))) | ((with_reducible show wpAny _ _ (binaryOp .Add (Value.str _ _) (Value.str _ _)) _ _ _); first | (with_reducible refine my_addq1 ?_ ?_; (first | assumption | omega); intro t' tk') | (with_reducible refine my_addq2 ?_ ?_; (first | (simp only [List.length_append, List.length_replicate, List.length_cons, List.length_nil]; omega) | fail "my_addq2"); intro t' tk') | (refine my_add ?_ ?_; (first | (simp only [List.length_append, List.length_replicate, List.length_cons, List.length_nil]; omega) | fail "my_add"); intro _ _)) | ((with_reducible show wpAny _ _ (call (Value.builtin "len") _ _) _ _ _); (refine my_lenS (by assumption) ?_; intro _ _)) | ((with_reducible show wpAny _ _ (compareOp .NotEq (Value.str _ _) (Value.str _ _)) _ _ _); (refine my_neSame ?_)) | ((with_reducible show wpAny _ _ (binaryOp .Add (Value.str _ _) (Value.str _ _)) _ _ _); first | (with_reducible refine my_addq1 ?_ ?_; (first | (simp only [List.length_append]; omega) | fail "my_addq1"); intro t' tk') | (with_reducible refine my_addq3 ?_ ?_; (first | (simp only [List.length_append]; omega) | fail "my_addq3"); intro t' tk') | (refine my_add ?_ ?_; (first | omega | (simp only [List.length_append, List.length_replicate, List.length_cons, List.length_nil]; omega) | fail "my_add"); intro _ _)) | ((with_reducible show wpAny _ _ (binaryOp .Mult (Value.str _ _) (Value.int _ _)) _ _ _); (refine my_mul (row_pow (by assumption)).1 (row_pow (by assumption)).2 ?_; intro _ _)) | ((with_reducible show wpAny _ _ (newTuple (Value.str _ _ :: _)) _ _ _); (refine newTuple_end ⟨_, rfl⟩ (sgn_item _) (dep_eq _))) | (k_unfold; (try dsimp only)) | (k_end; wrow_close) | walk1 | (dsimp only; walk1) | (leave1; try dsimp only) | fail "no step")
    · intro h' tk' ys hys hPn hyl hk
      (rename Fr _ _ _ _ => F9; rename News _ _ _ _ => N9)
      obtain ⟨F10, tn, rfl, N10, htl, hts⟩ := items_news F9 N9 hk hPn
      clear F9 N9 hPn hk
      have htl12 : tn.length = 12 := by rw [htl, List.size_toArray, hI9.length, hn9]
      refine kmk_add_lit F10 N10 (isList_of (n := 0) N10 (List.mem_append_right _ (List.Mem.head _))) hys rfl ?_ (by simp only [List.length_map, List.length_cons, List.length_nil, htl12]; decide)
      intro Di h6 F6 N6 l6
      clear hys hyl htl F10 N10
      iterate 8 (first | walk1 | (dsimp only; walk1))
      refine comp_pairs (LfP (itsOf ns)) (fun i v0 v1 => ∃ sg dp t1 t2, (itsOf ns)[i]? = some (sg, dp) ∧ v0 = .str (S [sg]) t1 ∧ v1 = .int (dp : Nat) t2) rfl (by decide) (by decide) rfl (by decide) rfl rfl (by decide)
        (fun _ _ _ _ _ x _ => x) (fun _ _ => .nil) ?_
      walk1
      (rename Fr _ _ _ _ => F9; rename News _ _ _ _ => N9)
      refine ⟨Di, _, rfl, isList_of (n := 0) N9 (List.Mem.head _), by simp only [List.size_toArray, List.length_append, List.length_map, List.length_cons, List.length_nil, htl12]; decide, ?_, ?_, ?_⟩
      · intro i v hv
        obtain ⟨T, t1, t2, sg, dp, e1, e2, e3⟩ := items_hit hts (List.mem_cons_of_mem _ (List.mem_append_right _ (List.mem_cons_of_mem _ (List.Mem.head _)))) (fun p hp => List.mem_cons_of_mem _ (List.mem_append_left _ hp)) i v (by simpa using hv)
        exact ⟨T, _, _, e2, (N9 _ e3).1, sg, dp, t1, t2, e1, rfl, rfl⟩
      · rintro i v0 v1 s₂ m₂ ys hi ⟨sg, dp, t1, t2, e1, rfl, rfl⟩ hn hm0 hm1 hsz hPi
        have hd3 : dp ≤ 3 := itsOf_depth (ns := ns) _ (List.mem_of_getElem? e1)
        have hp7 := (row_pow hd3).2
        refine wpAny_mono (Q := LfEnd s₂ (pc dp sg)) (E := fun _ _ => False) ?_ (fun _ _ z => LfP.step hPi e1 z) (fun _ _ z => z.elim)
        clear hPi
        repeat' (first | ((with_reducible show wpAny _ _ (subscriptTail (PySem.Expr.Name _ _) _ (Value.ref _) (Value.ref _)) _ _ _); (refine kmk_slice_ints (by k_asm) (by k_asm) (by kmk_list) (by kmk_part) (by kmk_part) (by l_ints) (by exact kmk_from (by l_ints) (by omega)) (by kmk_len) ?_ (by with_unfolding_all rfl) (by kmk_pure) (by kmk_size); intro _ _ _ _ _ l1 _ _ _; (try k_lt l1))) | ((with_reducible show wpAny _ _ (subscriptTail (PySem.Expr.List _ _) _ (Value.ref _) (Value.ref _)) _ _ _); (refine kba_turn (value' := PySem.Expr.Name (PySem.Str.ofString "_") ⟨0, 0, 0, 0⟩) (fun _ => rfl) ?_)) | ((with_reducible show wpAny _ _ (call (Value.ref _) _ _) _ _ _); first | (refine walk_all _ _ _ _ _ _ (by assumption) _ _ _ _ _ _ _ _ _ _ _ _ _ _ _ (by k_asm) (by k_asm) (by assumption) (by k_asm) (by assumption) (by assumption) (by assumption) (by assumption) (by assumption) (by assumption) (by assumption) (by assumption) (by assumption) ?_; intro D' t1' t2' t3' h' tk' F' N') | (refine strip_all _ _ (by omega) (by (rw [S_len]; omega)) (by assumption) _ _ _ _ _ _ _ _ _ _ _ _ _ _ _ (by k_asm) (by k_asm) (by assumption) (by k_asm) (by assumption) (by assumption) (by assumption) (by assumption) ?_; intro _ _ h' tk' _ F' N'; (try rw [(by assumption : outF false _ = _)])) | (refine word_all _ _ _ (by (simp only [List.length_append, List.length_cons, List.length_nil]; omega)) (by (rw [S_len]; simp only [List.length_append, List.length_cons, List.length_nil]; omega)) (by assumption) (by assumption) _ _ _ _ _ _ _ _ _ _ _ _ _ _ _ (by k_asm) (by k_asm) (by assumption) (by k_asm) (by assumption) (by assumption) (by assumption) (by assumption) (by assumption) (by assumption) ?_; intro D' t1' t2' t3' _ _ _ _ h' tk' F' N' _ _; (try rw [(by assumption : lexF false _ = _)] at N'); (try dsimp only at N')) | (refine due_all _ _ (by omega) (by (rw [S_len]; omega)) (by assumption) _ _ _ _ _ _ _ _ _ _ _ _ _ _ _ (by k_asm) (by k_asm) (by assumption) (by k_asm) (by assumption) (by assumption) (by assumption) ?_ ?_ ?_; all_goals (first | (intro hq1; exact absurd (by assumption) hq1) | (intro hq1; exact absurd hq1 (by assumption)) | (intro hq1 hq2; exact absurd (by assumption) hq2) | (intro hq1 hq2; exact absurd hq2 (by assumption)) | intros))) | ((with_reducible show wpAny _ _ (binaryOp .Add (Value.str _ _) (Value.str _ _)) _ _ _); first | (with_reducible refine my_addq1 ?_ ?_; (first | assumption | omega); intro t' tk') | (with_reducible refine my_addq2 ?_ ?_; (first | (simp only [List.length_append, List.length_replicate, List.length_cons, List.length_nil]; omega) | fail "my_addq2"); intro t' tk') | (refine my_add ?_ ?_; (first | (simp only [List.length_append, List.length_replicate, List.length_cons, List.length_nil]; omega) | fail "my_add"); intro _ _)) | ((with_reducible show wpAny _ _ (call (Value.builtin "len") _ _) _ _ _); (refine my_lenS (by assumption) ?_; intro _ _)) | ((with_reducible show wpAny _ _ (compareOp .NotEq (Value.str _ _) (Value.str _ _)) _ _ _); (refine my_neSame ?_)) | ((with_reducible show wpAny _ _ (binaryOp .Add (Value.str _ _) (Value.str _ _)) _ _ _); first | (with_reducible refine my_addq1 ?_ ?_; (first | (simp only [List.length_append]; omega) | fail "my_addq1"); intro t' tk') | (with_reducible refine my_addq3 ?_ ?_; (first | (simp only [List.length_append]; omega) | fail "my_addq3"); intro t' tk') | (refine my_add ?_ ?_; (first | omega | (simp only [List.length_append, List.length_replicate, List.length_cons, List.length_nil]; omega) | fail "my_add"); intro _ _)) | ((with_reducible show wpAny _ _ (binaryOp .Mult (Value.str _ _) (Value.int _ _)) _ _ _); (refine my_mul (row_pow (by assumption)).1 (row_pow (by assumption)).2 ?_; intro _ _)) | ((with_reducible show wpAny _ _ (newTuple (Value.str _ _ :: _)) _ _ _); (refine newTuple_end ⟨_, rfl⟩ (sgn_item _) (dep_eq _))) | (k_unfold; (try dsimp only)) | (k_end; wrow_close) | walk1 | (dsimp only; walk1) | (leave1; try dsimp only) | fail "no step")
        exact ⟨⟨_, rfl⟩, _, _, rfl, fun _ _ e => e⟩
      · intro h' tk' ys hys hPn hyl hk
        have F10 := fr_up F9 hk
        have N10 := news_up N9 hk
        clear F9 N9 hk
        have hSt : StrsAre ys (((itsOf ns).map fun it => pc it.2 it.1).map S) := row_strs (by show _ = (itsOf ns).length; simp [itsOf, htl12, hn9]) hPn
        repeat' (first | ((with_reducible show wpAny _ _ (subscriptTail (PySem.Expr.Name _ _) _ (Value.ref _) (Value.ref _)) _ _ _); (refine kmk_slice_ints (by k_asm) (by k_asm) (by kmk_list) (by kmk_part) (by kmk_part) (by l_ints) (by exact kmk_from (by l_ints) (by omega)) (by kmk_len) ?_ (by with_unfolding_all rfl) (by kmk_pure) (by kmk_size); intro _ _ _ _ _ l1 _ _ _; (try k_lt l1))) | ((with_reducible show wpAny _ _ (subscriptTail (PySem.Expr.List _ _) _ (Value.ref _) (Value.ref _)) _ _ _); (refine kba_turn (value' := PySem.Expr.Name (PySem.Str.ofString "_") ⟨0, 0, 0, 0⟩) (fun _ => rfl) ?_)) | ((with_reducible show wpAny _ _ (call (Value.ref _) _ _) _ _ _); first | (refine walk_all _ _ _ _ _ _ (by assumption) _ _ _ _ _ _ _ _ _ _ _ _ _ _ _ (by k_asm) (by k_asm) (by assumption) (by k_asm) (by assumption) (by assumption) (by assumption) (by assumption) (by assumption) (by assumption) (by assumption) (by assumption) (by assumption) ?_; intro D' t1' t2' t3' h' tk' F' N') | (refine strip_all _ _ (by omega) (by (rw [S_len]; omega)) (by assumption) _ _ _ _ _ _ _ _ _ _ _ _ _ _ _ (by k_asm) (by k_asm) (by assumption) (by k_asm) (by assumption) (by assumption) (by assumption) (by assumption) ?_; intro _ _ h' tk' _ F' N'; (try rw [(by assumption : outF false _ = _)])) | (refine word_all _ _ _ (by (simp only [List.length_append, List.length_cons, List.length_nil]; omega)) (by (rw [S_len]; simp only [List.length_append, List.length_cons, List.length_nil]; omega)) (by assumption) (by assumption) _ _ _ _ _ _ _ _ _ _ _ _ _ _ _ (by k_asm) (by k_asm) (by assumption) (by k_asm) (by assumption) (by assumption) (by assumption) (by assumption) (by assumption) (by assumption) ?_; intro D' t1' t2' t3' _ _ _ _ h' tk' F' N' _ _; (try rw [(by assumption : lexF false _ = _)] at N'); (try dsimp only at N')) | (refine due_all _ _ (by omega) (by (rw [S_len]; omega)) (by assumption) _ _ _ _ _ _ _ _ _ _ _ _ _ _ _ (by k_asm) (by k_asm) (by assumption) (by k_asm) (by assumption) (by assumption) (by assumption) ?_ ?_ ?_; all_goals (first | (intro hq1; exact absurd (by assumption) hq1) | (intro hq1; exact absurd hq1 (by assumption)) | (intro hq1 hq2; exact absurd (by assumption) hq2) | (intro hq1 hq2; exact absurd hq2 (by assumption)) | intros))) | ((with_reducible show wpAny _ _ (binaryOp .Add (Value.str _ _) (Value.str _ _)) _ _ _); first | (with_reducible refine my_addq1 ?_ ?_; (first | assumption | omega); intro t' tk') | (with_reducible refine my_addq2 ?_ ?_; (first | (simp only [List.length_append, List.length_replicate, List.length_cons, List.length_nil]; omega) | fail "my_addq2"); intro t' tk') | (refine my_add ?_ ?_; (first | (simp only [List.length_append, List.length_replicate, List.length_cons, List.length_nil]; omega) | fail "my_add"); intro _ _)) | ((with_reducible show wpAny _ _ (call (Value.builtin "len") _ _) _ _ _); (refine my_lenS (by assumption) ?_; intro _ _)) | ((with_reducible show wpAny _ _ (compareOp .NotEq (Value.str _ _) (Value.str _ _)) _ _ _); (refine my_neSame ?_)) | ((with_reducible show wpAny _ _ (binaryOp .Add (Value.str _ _) (Value.str _ _)) _ _ _); first | (with_reducible refine my_addq1 ?_ ?_; (first | (simp only [List.length_append]; omega) | fail "my_addq1"); intro t' tk') | (with_reducible refine my_addq3 ?_ ?_; (first | (simp only [List.length_append]; omega) | fail "my_addq3"); intro t' tk') | (refine my_add ?_ ?_; (first | omega | (simp only [List.length_append, List.length_replicate, List.length_cons, List.length_nil]; omega) | fail "my_add"); intro _ _)) | ((with_reducible show wpAny _ _ (binaryOp .Mult (Value.str _ _) (Value.int _ _)) _ _ _); (refine my_mul (row_pow (by assumption)).1 (row_pow (by assumption)).2 ?_; intro _ _)) | ((with_reducible show wpAny _ _ (newTuple (Value.str _ _ :: _)) _ _ _); (refine newTuple_end ⟨_, rfl⟩ (sgn_item _) (dep_eq _))) | (k_unfold; (try dsimp only)) | (k_end; wrow_close) | walk1 | (dsimp only; walk1) | (leave1; try dsimp only) | fail "no step")
        refine row_join hys hSt ⟨row_fits itsOf_depth (by simp [itsOf, hn9]), (by simp [itsOf, hn9] : (itsOf ns).length ≤ 13)⟩ ?_
        intro t' tk'
        repeat' (first | ((with_reducible show wpAny _ _ (subscriptTail (PySem.Expr.Name _ _) _ (Value.ref _) (Value.ref _)) _ _ _); (refine kmk_slice_ints (by k_asm) (by k_asm) (by kmk_list) (by kmk_part) (by kmk_part) (by l_ints) (by exact kmk_from (by l_ints) (by omega)) (by kmk_len) ?_ (by with_unfolding_all rfl) (by kmk_pure) (by kmk_size); intro _ _ _ _ _ l1 _ _ _; (try k_lt l1))) | ((with_reducible show wpAny _ _ (subscriptTail (PySem.Expr.List _ _) _ (Value.ref _) (Value.ref _)) _ _ _); (refine kba_turn (value' := PySem.Expr.Name (PySem.Str.ofString "_") ⟨0, 0, 0, 0⟩) (fun _ => rfl) ?_)) | ((with_reducible show wpAny _ _ (call (Value.ref _) _ _) _ _ _); first | (refine walk_all _ _ _ _ _ _ (by assumption) _ _ _ _ _ _ _ _ _ _ _ _ _ _ _ (by k_asm) (by k_asm) (by assumption) (by k_asm) (by assumption) (by assumption) (by assumption) (by assumption) (by assumption) (by assumption) (by assumption) (by assumption) (by assumption) ?_; intro D' t1' t2' t3' h' tk' F' N') | (refine strip_all _ _ (by omega) (by (rw [S_len]; omega)) (by assumption) _ _ _ _ _ _ _ _ _ _ _ _ _ _ _ (by k_asm) (by k_asm) (by assumption) (by k_asm) (by assumption) (by assumption) (by assumption) (by assumption) ?_; intro _ _ h' tk' _ F' N'; (try rw [(by assumption : outF false _ = _)])) | (refine word_all _ _ _ (by (simp only [List.length_append, List.length_cons, List.length_nil]; omega)) (by (rw [S_len]; simp only [List.length_append, List.length_cons, List.length_nil]; omega)) (by assumption) (by assumption) _ _ _ _ _ _ _ _ _ _ _ _ _ _ _ (by k_asm) (by k_asm) (by assumption) (by k_asm) (by assumption) (by assumption) (by assumption) (by assumption) (by assumption) (by assumption) ?_; intro D' t1' t2' t3' _ _ _ _ h' tk' F' N' _ _; (try rw [(by assumption : lexF false _ = _)] at N'); (try dsimp only at N')) | (refine due_all _ _ (by omega) (by (rw [S_len]; omega)) (by assumption) _ _ _ _ _ _ _ _ _ _ _ _ _ _ _ (by k_asm) (by k_asm) (by assumption) (by k_asm) (by assumption) (by assumption) (by assumption) ?_ ?_ ?_; all_goals (first | (intro hq1; exact absurd (by assumption) hq1) | (intro hq1; exact absurd hq1 (by assumption)) | (intro hq1 hq2; exact absurd (by assumption) hq2) | (intro hq1 hq2; exact absurd hq2 (by assumption)) | intros))) | ((with_reducible show wpAny _ _ (binaryOp .Add (Value.str _ _) (Value.str _ _)) _ _ _); first | (with_reducible refine my_addq1 ?_ ?_; (first | assumption | omega); intro t' tk') | (with_reducible refine my_addq2 ?_ ?_; (first | (simp only [List.length_append, List.length_replicate, List.length_cons, List.length_nil]; omega) | fail "my_addq2"); intro t' tk') | (refine my_add ?_ ?_; (first | (simp only [List.length_append, List.length_replicate, List.length_cons, List.length_nil]; omega) | fail "my_add"); intro _ _)) | ((with_reducible show wpAny _ _ (call (Value.builtin "len") _ _) _ _ _); (refine my_lenS (by assumption) ?_; intro _ _)) | ((with_reducible show wpAny _ _ (compareOp .NotEq (Value.str _ _) (Value.str _ _)) _ _ _); (refine my_neSame ?_)) | ((with_reducible show wpAny _ _ (binaryOp .Add (Value.str _ _) (Value.str _ _)) _ _ _); first | (with_reducible refine my_addq1 ?_ ?_; (first | (simp only [List.length_append]; omega) | fail "my_addq1"); intro t' tk') | (with_reducible refine my_addq3 ?_ ?_; (first | (simp only [List.length_append]; omega) | fail "my_addq3"); intro t' tk') | (refine my_add ?_ ?_; (first | omega | (simp only [List.length_append, List.length_replicate, List.length_cons, List.length_nil]; omega) | fail "my_add"); intro _ _)) | ((with_reducible show wpAny _ _ (binaryOp .Mult (Value.str _ _) (Value.int _ _)) _ _ _); (refine my_mul (row_pow (by assumption)).1 (row_pow (by assumption)).2 ?_; intro _ _)) | ((with_reducible show wpAny _ _ (newTuple (Value.str _ _ :: _)) _ _ _); (refine newTuple_end ⟨_, rfl⟩ (sgn_item _) (dep_eq _))) | (k_unfold; (try dsimp only)) | (k_end; wrow_close) | walk1 | (dsimp only; walk1) | (leave1; try dsimp only) | fail "no step")
        refine hP _ ?_
        dsimp only
        clear hP hys hSt
        refine C_execs_cons (C_For ?_ (by intro _; rfl))
        repeat' (first | ((with_reducible show wpAny _ _ (subscriptTail (PySem.Expr.Name _ _) _ (Value.ref _) (Value.ref _)) _ _ _); (refine kmk_slice_ints (by k_asm) (by k_asm) (by kmk_list) (by kmk_part) (by kmk_part) (by l_ints) (by exact kmk_from (by l_ints) (by omega)) (by kmk_len) ?_ (by with_unfolding_all rfl) (by kmk_pure) (by kmk_size); intro _ _ _ _ _ l1 _ _ _; (try k_lt l1))) | ((with_reducible show wpAny _ _ (subscriptTail (PySem.Expr.List _ _) _ (Value.ref _) (Value.ref _)) _ _ _); (refine kba_turn (value' := PySem.Expr.Name (PySem.Str.ofString "_") ⟨0, 0, 0, 0⟩) (fun _ => rfl) ?_)) | ((with_reducible show wpAny _ _ (call (Value.ref _) _ _) _ _ _); first | (refine walk_all _ _ _ _ _ _ (by assumption) _ _ _ _ _ _ _ _ _ _ _ _ _ _ _ (by k_asm) (by k_asm) (by assumption) (by k_asm) (by assumption) (by assumption) (by assumption) (by assumption) (by assumption) (by assumption) (by assumption) (by assumption) (by assumption) ?_; intro D' t1' t2' t3' h' tk' F' N') | (refine strip_all _ _ (by omega) (by (rw [S_len]; omega)) (by assumption) _ _ _ _ _ _ _ _ _ _ _ _ _ _ _ (by k_asm) (by k_asm) (by assumption) (by k_asm) (by assumption) (by assumption) (by assumption) (by assumption) ?_; intro _ _ h' tk' _ F' N'; (try rw [(by assumption : outF false _ = _)])) | (refine word_all _ _ _ (by (simp only [List.length_append, List.length_cons, List.length_nil]; omega)) (by (rw [S_len]; simp only [List.length_append, List.length_cons, List.length_nil]; omega)) (by assumption) (by assumption) _ _ _ _ _ _ _ _ _ _ _ _ _ _ _ (by k_asm) (by k_asm) (by assumption) (by k_asm) (by assumption) (by assumption) (by assumption) (by assumption) (by assumption) (by assumption) ?_; intro D' t1' t2' t3' _ _ _ _ h' tk' F' N' _ _; (try rw [(by assumption : lexF false _ = _)] at N'); (try dsimp only at N')) | (refine due_all _ _ (by omega) (by (rw [S_len]; omega)) (by assumption) _ _ _ _ _ _ _ _ _ _ _ _ _ _ _ (by k_asm) (by k_asm) (by assumption) (by k_asm) (by assumption) (by assumption) (by assumption) ?_ ?_ ?_; all_goals (first | (intro hq1; exact absurd (by assumption) hq1) | (intro hq1; exact absurd hq1 (by assumption)) | (intro hq1 hq2; exact absurd (by assumption) hq2) | (intro hq1 hq2; exact absurd hq2 (by assumption)) | intros))) | ((with_reducible show wpAny _ _ (binaryOp .Add (Value.str _ _) (Value.str _ _)) _ _ _); first | (with_reducible refine my_addq1 ?_ ?_; (first | assumption | omega); intro t' tk') | (with_reducible refine my_addq2 ?_ ?_; (first | (simp only [List.length_append, List.length_replicate, List.length_cons, List.length_nil]; omega) | fail "my_addq2"); intro t' tk') | (refine my_add ?_ ?_; (first | (simp only [List.length_append, List.length_replicate, List.length_cons, List.length_nil]; omega) | fail "my_add"); intro _ _)) | ((with_reducible show wpAny _ _ (call (Value.builtin "len") _ _) _ _ _); (refine my_lenS (by assumption) ?_; intro _ _)) | ((with_reducible show wpAny _ _ (compareOp .NotEq (Value.str _ _) (Value.str _ _)) _ _ _); (refine my_neSame ?_)) | ((with_reducible show wpAny _ _ (binaryOp .Add (Value.str _ _) (Value.str _ _)) _ _ _); first | (with_reducible refine my_addq1 ?_ ?_; (first | (simp only [List.length_append]; omega) | fail "my_addq1"); intro t' tk') | (with_reducible refine my_addq3 ?_ ?_; (first | (simp only [List.length_append]; omega) | fail "my_addq3"); intro t' tk') | (refine my_add ?_ ?_; (first | omega | (simp only [List.length_append, List.length_replicate, List.length_cons, List.length_nil]; omega) | fail "my_add"); intro _ _)) | ((with_reducible show wpAny _ _ (binaryOp .Mult (Value.str _ _) (Value.int _ _)) _ _ _); (refine my_mul (row_pow (by assumption)).1 (row_pow (by assumption)).2 ?_; intro _ _)) | ((with_reducible show wpAny _ _ (newTuple (Value.str _ _ :: _)) _ _ _); (refine newTuple_end ⟨_, rfl⟩ (sgn_item _) (dep_eq _))) | (k_unfold; (try dsimp only)) | (k_end; wrow_close) | walk1 | (dsimp only; walk1) | (leave1; try dsimp only) | fail "no step")
        refine wpAny_pyIter_range (by assumption) (small_one (by decide) (by decide) (by decide) (by decide)) ?_
        rw [show Builtin.Range.rangeSize 0 5 1 = ((5 : Nat) : Int) by decide +kernel]
        (rename Fr _ _ _ _ => F7; rename News _ _ _ _ => N7)
        have F8 := F7.push (rIter 0 ((5 : Nat) : Int) 1)
        have N8 := News.push F7 N7 (rIter 0 ((5 : Nat) : Int) 1) rfl
        obtain ⟨base9, NS0, hS, hsub9, items9, hDi9, hsz9, hit9⟩ := rounds_start2 N7 (List.Mem.head _) (List.mem_cons_of_mem _ (List.mem_append_right _ (List.mem_cons_of_mem _ (List.Mem.head _)))) (fun p hp => List.mem_cons_of_mem _ (List.mem_append_left _ hp)) (List.mem_cons_of_mem _ (List.mem_append_right _ (List.mem_cons_of_mem _ (List.mem_cons_of_mem _ (List.mem_cons_of_mem _ (List.Mem.head _)))))) hts (by rw [htl12, hn9])
        have hI0 := News.push F7 NS0 (rIter 0 ((5 : Nat) : Int) 1) rfl _ (List.Mem.head _)
        have hlt := fun p hp => Nat.ne_of_lt (Heap.lt_size (NS0 p hp).1)
        have NS := news_sub (News.push F7 NS0 (rIter 0 ((5 : Nat) : Int) 1) rfl) (fun q hq => List.mem_cons_of_mem _ hq)
        have e0 : (wfold 0 (itsOf ns)).2.1 = (List.map (fun it => pc it.2 it.1) (itsOf ns)).flatten := text_zero (itsOf ns) wInit
        clear N7 hsub9 NS0
        refine C_rounds (n := 5) rfl rfl rfl hI0.2.2 (Ne.symm hI0.2.1) hlt hI0.1 F8 NS (RJ (itsOf ns) Di base9 s₁) ?J0 ?Jk ?step ?hR
        case J0 =>
          refine ⟨_, #[], base9, by rw [e0]; with_unfolding_all rfl, by with_unfolding_all rfl, fun h => absurd rfl h, hbare9, rfl, rfl, .inl rfl, fun _ hq => hq, hS⟩
        case Jk =>
          rintro i m' nw s' h' tk' ⟨tl, ps, rest, q⟩
          exact ⟨tl, ps, rest, q⟩
        case step =>
          clear F8 NS hlt F7
          intro I9 hIe i t9 m₁ nw₁ s9 hi hJ F9 N9 hnI9
          clear hIe
          obtain ⟨tl, ps, rest, e1, e2, e3, hb9, hos9, rfl, hO9, hsub, hn9'⟩ := hJ
          have FR := fr_round F9 e1 e2
          clear F9 e1 e2 e3
          have hits := itsOf_sign (ns := ns)
          have hdep := itsOf_depth (ns := ns)
          have h92 : ∀ it ∈ itsOf ns, it.1 ≠ 92 := fun it h => by rcases hits it h with e | e <;> omega
          have hlen13 : (itsOf ns).length ≤ 13 := by simp [itsOf, hn9]
          have hal : Alph (wfold i (itsOf ns)).2.1 := alph_text _ wInit hits (fun c hc => by cases hc)
          obtain ⟨hbd1, hbd2, hbd3⟩ := text_bound (t := i) hdep hlen13
          obtain ⟨x1, hone⟩ := text_one (t := i) (ns.map itOf)
          have hstrip := strip_round hi h92
          have hlex := lex_round hi h92
          have hlexT := lexT_round hi h92
          have hh900 : (wfold i (itsOf ns)).2.2.2.length ≤ 900 := by omega
          have NR := news_sub (news := (123, tabObj ps) :: (I9, rIter ((i : Int) + 1) (((5 : Nat) : Int) - i - 1) 1) :: rest) N9 (fun q hq => by
            rcases List.mem_cons.mp hq with e | hq
            · rw [e]; exact List.mem_cons_of_mem _ (List.mem_cons_self ..)
            rcases List.mem_cons.mp hq with e | hq
            · rw [e]; exact List.mem_cons_self ..
            · exact List.mem_cons_of_mem _ (List.mem_cons_of_mem _ hq))
          have hsub2 : ∀ q ∈ base9, q ∈ (123, tabObj ps) :: (I9, rIter ((i : Int) + 1) (((5 : Nat) : Int) - i - 1) 1) :: rest := fun q hq => List.mem_cons_of_mem _ (List.mem_cons_of_mem _ (hsub q hq))
          have hax := hsub2 _ hDi9
          have hit : ∀ (j : Nat) (v : Value), items9[j]? = some v → ∃ T t1 t2 sg dp, (itsOf ns)[j]? = some (sg, dp) ∧ v = Value.ref T ∧ (T, tup [.str (S [sg]) t1, .int (dp : Nat) t2]) ∈ (123, tabObj ps) :: (I9, rIter ((i : Int) + 1) (((5 : Nat) : Int) - i - 1) 1) :: rest := fun j v hv => by
            obtain ⟨T, t1, t2, sg, dp, q1, q2, q3⟩ := hit9 j v hv
            exact ⟨T, t1, t2, sg, dp, q1, q2, hsub2 _ q3⟩
          clear N9 hsub2
          refine C_prefix (xs := [_]) (ys := [_, _, _, _, _, _]) ?_
          intro P hP
          repeat' (first | ((with_reducible show wpAny _ _ (subscriptTail (PySem.Expr.Name _ _) _ (Value.ref _) (Value.ref _)) _ _ _); (refine kmk_slice_ints (by k_asm) (by k_asm) (by kmk_list) (by kmk_part) (by kmk_part) (by l_ints) (by exact kmk_from (by l_ints) (by omega)) (by kmk_len) ?_ (by with_unfolding_all rfl) (by kmk_pure) (by kmk_size); intro _ _ _ _ _ l1 _ _ _; (try k_lt l1))) | ((with_reducible show wpAny _ _ (subscriptTail (PySem.Expr.List _ _) _ (Value.ref _) (Value.ref _)) _ _ _); (refine kba_turn (value' := PySem.Expr.Name (PySem.Str.ofString "_") ⟨0, 0, 0, 0⟩) (fun _ => rfl) ?_)) | ((with_reducible show wpAny _ _ (call (Value.ref _) _ _) _ _ _); first | (refine walk_all _ _ _ _ _ _ (by assumption) _ _ _ _ _ _ _ _ _ _ _ _ _ _ _ (by k_asm) (by k_asm) (by assumption) (by k_asm) (by assumption) (by assumption) (by assumption) (by assumption) (by assumption) (by assumption) (by assumption) (by assumption) (by assumption) ?_; intro D' t1' t2' t3' h' tk' F' N') | (refine strip_all _ _ (by omega) (by (rw [S_len]; omega)) (by assumption) _ _ _ _ _ _ _ _ _ _ _ _ _ _ _ (by k_asm) (by k_asm) (by assumption) (by k_asm) (by assumption) (by assumption) (by assumption) (by assumption) ?_; intro _ _ h' tk' _ F' N'; (try rw [(by assumption : outF false _ = _)])) | (refine word_all _ _ _ (by (simp only [List.length_append, List.length_cons, List.length_nil]; omega)) (by (rw [S_len]; simp only [List.length_append, List.length_cons, List.length_nil]; omega)) (by assumption) (by assumption) _ _ _ _ _ _ _ _ _ _ _ _ _ _ _ (by k_asm) (by k_asm) (by assumption) (by k_asm) (by assumption) (by assumption) (by assumption) (by assumption) (by assumption) (by assumption) ?_; intro D' t1' t2' t3' _ _ _ _ h' tk' F' N' _ _; (try rw [(by assumption : lexF false _ = _)] at N'); (try dsimp only at N')) | (refine due_all _ _ (by omega) (by (rw [S_len]; omega)) (by assumption) _ _ _ _ _ _ _ _ _ _ _ _ _ _ _ (by k_asm) (by k_asm) (by assumption) (by k_asm) (by assumption) (by assumption) (by assumption) ?_ ?_ ?_; all_goals (first | (intro hq1; exact absurd (by assumption) hq1) | (intro hq1; exact absurd hq1 (by assumption)) | (intro hq1 hq2; exact absurd (by assumption) hq2) | (intro hq1 hq2; exact absurd hq2 (by assumption)) | intros))) | ((with_reducible show wpAny _ _ (binaryOp .Add (Value.str _ _) (Value.str _ _)) _ _ _); first | (with_reducible refine my_addq1 ?_ ?_; (first | assumption | omega); intro t' tk') | (with_reducible refine my_addq2 ?_ ?_; (first | (simp only [List.length_append, List.length_replicate, List.length_cons, List.length_nil]; omega) | fail "my_addq2"); intro t' tk') | (refine my_add ?_ ?_; (first | (simp only [List.length_append, List.length_replicate, List.length_cons, List.length_nil]; omega) | fail "my_add"); intro _ _)) | ((with_reducible show wpAny _ _ (call (Value.builtin "len") _ _) _ _ _); (refine my_lenS (by assumption) ?_; intro _ _)) | ((with_reducible show wpAny _ _ (compareOp .NotEq (Value.str _ _) (Value.str _ _)) _ _ _); (refine my_neSame ?_)) | ((with_reducible show wpAny _ _ (binaryOp .Add (Value.str _ _) (Value.str _ _)) _ _ _); first | (with_reducible refine my_addq1 ?_ ?_; (first | (simp only [List.length_append]; omega) | fail "my_addq1"); intro t' tk') | (with_reducible refine my_addq3 ?_ ?_; (first | (simp only [List.length_append]; omega) | fail "my_addq3"); intro t' tk') | (refine my_add ?_ ?_; (first | omega | (simp only [List.length_append, List.length_replicate, List.length_cons, List.length_nil]; omega) | fail "my_add"); intro _ _)) | ((with_reducible show wpAny _ _ (binaryOp .Mult (Value.str _ _) (Value.int _ _)) _ _ _); (refine my_mul (row_pow (by assumption)).1 (row_pow (by assumption)).2 ?_; intro _ _)) | ((with_reducible show wpAny _ _ (newTuple (Value.str _ _ :: _)) _ _ _); (refine newTuple_end ⟨_, rfl⟩ (sgn_item _) (dep_eq _))) | (k_unfold; (try dsimp only)) | (k_end; wrow_close) | walk1 | (dsimp only; walk1) | (leave1; try dsimp only) | fail "no step")
          refine hP _ ?_
          dsimp only
          clear hP NR FR
          (rename Fr _ _ _ _ => F1; rename News _ _ _ _ => N1)
          have N2 := news_sub (news := (123, tabObj ps) :: (I9, rIter ((i : Int) + 1) (((5 : Nat) : Int) - i - 1) 1) :: rest) N1 (fun q hq => List.mem_cons_of_mem _ hq)
          clear N1
          refine C_port F1 N2 ?s2 ?rest
          case s2 =>
            refine C_If (C_isTrue_Or2 ?_)
            repeat' (first | ((with_reducible show wpAny _ _ (subscriptTail (PySem.Expr.Name _ _) _ (Value.ref _) (Value.ref _)) _ _ _); (refine kmk_slice_ints (by k_asm) (by k_asm) (by kmk_list) (by kmk_part) (by kmk_part) (by l_ints) (by exact kmk_from (by l_ints) (by omega)) (by kmk_len) ?_ (by with_unfolding_all rfl) (by kmk_pure) (by kmk_size); intro _ _ _ _ _ l1 _ _ _; (try k_lt l1))) | ((with_reducible show wpAny _ _ (subscriptTail (PySem.Expr.List _ _) _ (Value.ref _) (Value.ref _)) _ _ _); (refine kba_turn (value' := PySem.Expr.Name (PySem.Str.ofString "_") ⟨0, 0, 0, 0⟩) (fun _ => rfl) ?_)) | ((with_reducible show wpAny _ _ (call (Value.ref _) _ _) _ _ _); first | (refine walk_all _ _ _ _ _ _ (by assumption) _ _ _ _ _ _ _ _ _ _ _ _ _ _ _ (by k_asm) (by k_asm) (by assumption) (by k_asm) (by assumption) (by assumption) (by assumption) (by assumption) (by assumption) (by assumption) (by assumption) (by assumption) (by assumption) ?_; intro D' t1' t2' t3' h' tk' F' N') | (refine strip_all _ _ (by omega) (by (rw [S_len]; omega)) (by assumption) _ _ _ _ _ _ _ _ _ _ _ _ _ _ _ (by k_asm) (by k_asm) (by assumption) (by k_asm) (by assumption) (by assumption) (by assumption) (by assumption) ?_; intro _ _ h' tk' _ F' N'; (try rw [(by assumption : outF false _ = _)])) | (refine word_all _ _ _ (by (simp only [List.length_append, List.length_cons, List.length_nil]; omega)) (by (rw [S_len]; simp only [List.length_append, List.length_cons, List.length_nil]; omega)) (by assumption) (by assumption) _ _ _ _ _ _ _ _ _ _ _ _ _ _ _ (by k_asm) (by k_asm) (by assumption) (by k_asm) (by assumption) (by assumption) (by assumption) (by assumption) (by assumption) (by assumption) ?_; intro D' t1' t2' t3' _ _ _ _ h' tk' F' N' _ _; (try rw [(by assumption : lexF false _ = _)] at N'); (try dsimp only at N')) | (refine due_all _ _ (by omega) (by (rw [S_len]; omega)) (by assumption) _ _ _ _ _ _ _ _ _ _ _ _ _ _ _ (by k_asm) (by k_asm) (by assumption) (by k_asm) (by assumption) (by assumption) (by assumption) ?_ ?_ ?_; all_goals (first | (intro hq1; exact absurd (by assumption) hq1) | (intro hq1; exact absurd hq1 (by assumption)) | (intro hq1 hq2; exact absurd (by assumption) hq2) | (intro hq1 hq2; exact absurd hq2 (by assumption)) | intros))) | ((with_reducible show wpAny _ _ (binaryOp .Add (Value.str _ _) (Value.str _ _)) _ _ _); first | (with_reducible refine my_addq1 ?_ ?_; (first | assumption | omega); intro t' tk') | (with_reducible refine my_addq2 ?_ ?_; (first | (simp only [List.length_append, List.length_replicate, List.length_cons, List.length_nil]; omega) | fail "my_addq2"); intro t' tk') | (refine my_add ?_ ?_; (first | (simp only [List.length_append, List.length_replicate, List.length_cons, List.length_nil]; omega) | fail "my_add"); intro _ _)) | ((with_reducible show wpAny _ _ (call (Value.builtin "len") _ _) _ _ _); (refine my_lenS (by assumption) ?_; intro _ _)) | ((with_reducible show wpAny _ _ (compareOp .NotEq (Value.str _ _) (Value.str _ _)) _ _ _); (refine my_neSame ?_)) | ((with_reducible show wpAny _ _ (binaryOp .Add (Value.str _ _) (Value.str _ _)) _ _ _); first | (with_reducible refine my_addq1 ?_ ?_; (first | (simp only [List.length_append]; omega) | fail "my_addq1"); intro t' tk') | (with_reducible refine my_addq3 ?_ ?_; (first | (simp only [List.length_append]; omega) | fail "my_addq3"); intro t' tk') | (refine my_add ?_ ?_; (first | omega | (simp only [List.length_append, List.length_replicate, List.length_cons, List.length_nil]; omega) | fail "my_add"); intro _ _)) | ((with_reducible show wpAny _ _ (binaryOp .Mult (Value.str _ _) (Value.int _ _)) _ _ _); (refine my_mul (row_pow (by assumption)).1 (row_pow (by assumption)).2 ?_; intro _ _)) | ((with_reducible show wpAny _ _ (newTuple (Value.str _ _ :: _)) _ _ _); (refine newTuple_end ⟨_, rfl⟩ (sgn_item _) (dep_eq _))) | (k_unfold; (try dsimp only)) | (k_end; wrow_close) | walk1 | (dsimp only; walk1) | (leave1; try dsimp only) | fail "no step")
            refine C_isTrue_Compare1 (C_Call_Name ?_)
            walk1
            try dsimp only
            refine C_callWith_K (K := hd.heap_39 w.params) (by k_is) ?_
            repeat' (first | ((with_reducible show wpAny _ _ (subscriptTail (PySem.Expr.Name _ _) _ (Value.ref _) (Value.ref _)) _ _ _); (refine kmk_slice_ints (by k_asm) (by k_asm) (by kmk_list) (by kmk_part) (by kmk_part) (by l_ints) (by exact kmk_from (by l_ints) (by omega)) (by kmk_len) ?_ (by with_unfolding_all rfl) (by kmk_pure) (by kmk_size); intro _ _ _ _ _ l1 _ _ _; (try k_lt l1))) | ((with_reducible show wpAny _ _ (subscriptTail (PySem.Expr.List _ _) _ (Value.ref _) (Value.ref _)) _ _ _); (refine kba_turn (value' := PySem.Expr.Name (PySem.Str.ofString "_") ⟨0, 0, 0, 0⟩) (fun _ => rfl) ?_)) | ((with_reducible show wpAny _ _ (call (Value.ref _) _ _) _ _ _); first | (refine walk_all _ _ _ _ _ _ (by assumption) _ _ _ _ _ _ _ _ _ _ _ _ _ _ _ (by k_asm) (by k_asm) (by assumption) (by k_asm) (by assumption) (by assumption) (by assumption) (by assumption) (by assumption) (by assumption) (by assumption) (by assumption) (by assumption) ?_; intro D' t1' t2' t3' h' tk' F' N') | (refine strip_all _ _ (by omega) (by (rw [S_len]; omega)) (by assumption) _ _ _ _ _ _ _ _ _ _ _ _ _ _ _ (by k_asm) (by k_asm) (by assumption) (by k_asm) (by assumption) (by assumption) (by assumption) (by assumption) ?_; intro _ _ h' tk' _ F' N'; (try rw [(by assumption : outF false _ = _)])) | (refine word_all _ _ _ (by (simp only [List.length_append, List.length_cons, List.length_nil]; omega)) (by (rw [S_len]; simp only [List.length_append, List.length_cons, List.length_nil]; omega)) (by assumption) (by assumption) _ _ _ _ _ _ _ _ _ _ _ _ _ _ _ (by k_asm) (by k_asm) (by assumption) (by k_asm) (by assumption) (by assumption) (by assumption) (by assumption) (by assumption) (by assumption) ?_; intro D' t1' t2' t3' _ _ _ _ h' tk' F' N' _ _; (try rw [(by assumption : lexF false _ = _)] at N'); (try dsimp only at N')) | (refine due_all _ _ (by omega) (by (rw [S_len]; omega)) (by assumption) _ _ _ _ _ _ _ _ _ _ _ _ _ _ _ (by k_asm) (by k_asm) (by assumption) (by k_asm) (by assumption) (by assumption) (by assumption) ?_ ?_ ?_; all_goals (first | (intro hq1; exact absurd (by assumption) hq1) | (intro hq1; exact absurd hq1 (by assumption)) | (intro hq1 hq2; exact absurd (by assumption) hq2) | (intro hq1 hq2; exact absurd hq2 (by assumption)) | intros))) | ((with_reducible show wpAny _ _ (binaryOp .Add (Value.str _ _) (Value.str _ _)) _ _ _); first | (with_reducible refine my_addq1 ?_ ?_; (first | assumption | omega); intro t' tk') | (with_reducible refine my_addq2 ?_ ?_; (first | (simp only [List.length_append, List.length_replicate, List.length_cons, List.length_nil]; omega) | fail "my_addq2"); intro t' tk') | (refine my_add ?_ ?_; (first | (simp only [List.length_append, List.length_replicate, List.length_cons, List.length_nil]; omega) | fail "my_add"); intro _ _)) | ((with_reducible show wpAny _ _ (call (Value.builtin "len") _ _) _ _ _); (refine my_lenS (by assumption) ?_; intro _ _)) | ((with_reducible show wpAny _ _ (compareOp .NotEq (Value.str _ _) (Value.str _ _)) _ _ _); (refine my_neSame ?_)) | ((with_reducible show wpAny _ _ (binaryOp .Add (Value.str _ _) (Value.str _ _)) _ _ _); first | (with_reducible refine my_addq1 ?_ ?_; (first | (simp only [List.length_append]; omega) | fail "my_addq1"); intro t' tk') | (with_reducible refine my_addq3 ?_ ?_; (first | (simp only [List.length_append]; omega) | fail "my_addq3"); intro t' tk') | (refine my_add ?_ ?_; (first | omega | (simp only [List.length_append, List.length_replicate, List.length_cons, List.length_nil]; omega) | fail "my_add"); intro _ _)) | ((with_reducible show wpAny _ _ (binaryOp .Mult (Value.str _ _) (Value.int _ _)) _ _ _); (refine my_mul (row_pow (by assumption)).1 (row_pow (by assumption)).2 ?_; intro _ _)) | ((with_reducible show wpAny _ _ (newTuple (Value.str _ _ :: _)) _ _ _); (refine newTuple_end ⟨_, rfl⟩ (sgn_item _) (dep_eq _))) | (k_unfold; (try dsimp only)) | (k_end; wrow_close) | walk1 | (dsimp only; walk1) | (leave1; try dsimp only) | fail "no step")
            (rename Fr _ _ _ _ => F3; rename News _ _ _ _ => N3)
            have hnum := fun (h34 : 34 ∉ (wfold i (itsOf ns)).2.1) (h92' : 92 ∉ (wfold i (itsOf ns)).2.1) => num_of hal h34 h92' (by rw [show itsOf ns = (49, 0) :: ns.map itOf from rfl, hone]; exact List.cons_ne_nil _ _) (by omega)
            refine port_all (wfold i (itsOf ns)).2.1 _ (by omega) (by rw [S_len]; omega) hal hnum _ _ _ _ _ _ _ _ _ _ _ _ _ _ _ B8 F3 X8 N3 T8 X8 T8 ?_ ?_ ?_
            · intro h34 t' h' tk' F' N'
              repeat' (first | ((with_reducible show wpAny _ _ (subscriptTail (PySem.Expr.Name _ _) _ (Value.ref _) (Value.ref _)) _ _ _); (refine kmk_slice_ints (by k_asm) (by k_asm) (by kmk_list) (by kmk_part) (by kmk_part) (by l_ints) (by exact kmk_from (by l_ints) (by omega)) (by kmk_len) ?_ (by with_unfolding_all rfl) (by kmk_pure) (by kmk_size); intro _ _ _ _ _ l1 _ _ _; (try k_lt l1))) | ((with_reducible show wpAny _ _ (subscriptTail (PySem.Expr.List _ _) _ (Value.ref _) (Value.ref _)) _ _ _); (refine kba_turn (value' := PySem.Expr.Name (PySem.Str.ofString "_") ⟨0, 0, 0, 0⟩) (fun _ => rfl) ?_)) | ((with_reducible show wpAny _ _ (call (Value.ref _) _ _) _ _ _); first | (refine walk_all _ _ _ _ _ _ (by assumption) _ _ _ _ _ _ _ _ _ _ _ _ _ _ _ (by k_asm) (by k_asm) (by assumption) (by k_asm) (by assumption) (by assumption) (by assumption) (by assumption) (by assumption) (by assumption) (by assumption) (by assumption) (by assumption) ?_; intro D' t1' t2' t3' h' tk' F' N') | (refine strip_all _ _ (by omega) (by (rw [S_len]; omega)) (by assumption) _ _ _ _ _ _ _ _ _ _ _ _ _ _ _ (by k_asm) (by k_asm) (by assumption) (by k_asm) (by assumption) (by assumption) (by assumption) (by assumption) ?_; intro _ _ h' tk' _ F' N'; (try rw [(by assumption : outF false _ = _)])) | (refine word_all _ _ _ (by (simp only [List.length_append, List.length_cons, List.length_nil]; omega)) (by (rw [S_len]; simp only [List.length_append, List.length_cons, List.length_nil]; omega)) (by assumption) (by assumption) _ _ _ _ _ _ _ _ _ _ _ _ _ _ _ (by k_asm) (by k_asm) (by assumption) (by k_asm) (by assumption) (by assumption) (by assumption) (by assumption) (by assumption) (by assumption) ?_; intro D' t1' t2' t3' _ _ _ _ h' tk' F' N' _ _; (try rw [(by assumption : lexF false _ = _)] at N'); (try dsimp only at N')) | (refine due_all _ _ (by omega) (by (rw [S_len]; omega)) (by assumption) _ _ _ _ _ _ _ _ _ _ _ _ _ _ _ (by k_asm) (by k_asm) (by assumption) (by k_asm) (by assumption) (by assumption) (by assumption) ?_ ?_ ?_; all_goals (first | (intro hq1; exact absurd (by assumption) hq1) | (intro hq1; exact absurd hq1 (by assumption)) | (intro hq1 hq2; exact absurd (by assumption) hq2) | (intro hq1 hq2; exact absurd hq2 (by assumption)) | intros))) | ((with_reducible show wpAny _ _ (binaryOp .Add (Value.str _ _) (Value.str _ _)) _ _ _); first | (with_reducible refine my_addq1 ?_ ?_; (first | assumption | omega); intro t' tk') | (with_reducible refine my_addq2 ?_ ?_; (first | (simp only [List.length_append, List.length_replicate, List.length_cons, List.length_nil]; omega) | fail "my_addq2"); intro t' tk') | (refine my_add ?_ ?_; (first | (simp only [List.length_append, List.length_replicate, List.length_cons, List.length_nil]; omega) | fail "my_add"); intro _ _)) | ((with_reducible show wpAny _ _ (call (Value.builtin "len") _ _) _ _ _); (refine my_lenS (by assumption) ?_; intro _ _)) | ((with_reducible show wpAny _ _ (compareOp .NotEq (Value.str _ _) (Value.str _ _)) _ _ _); (refine my_neSame ?_)) | ((with_reducible show wpAny _ _ (binaryOp .Add (Value.str _ _) (Value.str _ _)) _ _ _); first | (with_reducible refine my_addq1 ?_ ?_; (first | (simp only [List.length_append]; omega) | fail "my_addq1"); intro t' tk') | (with_reducible refine my_addq3 ?_ ?_; (first | (simp only [List.length_append]; omega) | fail "my_addq3"); intro t' tk') | (refine my_add ?_ ?_; (first | omega | (simp only [List.length_append, List.length_replicate, List.length_cons, List.length_nil]; omega) | fail "my_add"); intro _ _)) | ((with_reducible show wpAny _ _ (binaryOp .Mult (Value.str _ _) (Value.int _ _)) _ _ _); (refine my_mul (row_pow (by assumption)).1 (row_pow (by assumption)).2 ?_; intro _ _)) | ((with_reducible show wpAny _ _ (newTuple (Value.str _ _ :: _)) _ _ _); (refine newTuple_end ⟨_, rfl⟩ (sgn_item _) (dep_eq _))) | (k_unfold; (try dsimp only)) | (k_end; wrow_close) | walk1 | (dsimp only; walk1) | (leave1; try dsimp only) | fail "no step")
              (rename Fr _ _ _ _ => F4; rename News _ _ _ _ => N4)
              exact C_execs_nil (portEnd_of F4 N4 (fun q hq => hq))
            · intro h34 h92' t' h' tk' F' N'
              repeat' (first | ((with_reducible show wpAny _ _ (subscriptTail (PySem.Expr.Name _ _) _ (Value.ref _) (Value.ref _)) _ _ _); (refine kmk_slice_ints (by k_asm) (by k_asm) (by kmk_list) (by kmk_part) (by kmk_part) (by l_ints) (by exact kmk_from (by l_ints) (by omega)) (by kmk_len) ?_ (by with_unfolding_all rfl) (by kmk_pure) (by kmk_size); intro _ _ _ _ _ l1 _ _ _; (try k_lt l1))) | ((with_reducible show wpAny _ _ (subscriptTail (PySem.Expr.List _ _) _ (Value.ref _) (Value.ref _)) _ _ _); (refine kba_turn (value' := PySem.Expr.Name (PySem.Str.ofString "_") ⟨0, 0, 0, 0⟩) (fun _ => rfl) ?_)) | ((with_reducible show wpAny _ _ (call (Value.ref _) _ _) _ _ _); first | (refine walk_all _ _ _ _ _ _ (by assumption) _ _ _ _ _ _ _ _ _ _ _ _ _ _ _ (by k_asm) (by k_asm) (by assumption) (by k_asm) (by assumption) (by assumption) (by assumption) (by assumption) (by assumption) (by assumption) (by assumption) (by assumption) (by assumption) ?_; intro D' t1' t2' t3' h' tk' F' N') | (refine strip_all _ _ (by omega) (by (rw [S_len]; omega)) (by assumption) _ _ _ _ _ _ _ _ _ _ _ _ _ _ _ (by k_asm) (by k_asm) (by assumption) (by k_asm) (by assumption) (by assumption) (by assumption) (by assumption) ?_; intro _ _ h' tk' _ F' N'; (try rw [(by assumption : outF false _ = _)])) | (refine word_all _ _ _ (by (simp only [List.length_append, List.length_cons, List.length_nil]; omega)) (by (rw [S_len]; simp only [List.length_append, List.length_cons, List.length_nil]; omega)) (by assumption) (by assumption) _ _ _ _ _ _ _ _ _ _ _ _ _ _ _ (by k_asm) (by k_asm) (by assumption) (by k_asm) (by assumption) (by assumption) (by assumption) (by assumption) (by assumption) (by assumption) ?_; intro D' t1' t2' t3' _ _ _ _ h' tk' F' N' _ _; (try rw [(by assumption : lexF false _ = _)] at N'); (try dsimp only at N')) | (refine due_all _ _ (by omega) (by (rw [S_len]; omega)) (by assumption) _ _ _ _ _ _ _ _ _ _ _ _ _ _ _ (by k_asm) (by k_asm) (by assumption) (by k_asm) (by assumption) (by assumption) (by assumption) ?_ ?_ ?_; all_goals (first | (intro hq1; exact absurd (by assumption) hq1) | (intro hq1; exact absurd hq1 (by assumption)) | (intro hq1 hq2; exact absurd (by assumption) hq2) | (intro hq1 hq2; exact absurd hq2 (by assumption)) | intros))) | ((with_reducible show wpAny _ _ (binaryOp .Add (Value.str _ _) (Value.str _ _)) _ _ _); first | (with_reducible refine my_addq1 ?_ ?_; (first | assumption | omega); intro t' tk') | (with_reducible refine my_addq2 ?_ ?_; (first | (simp only [List.length_append, List.length_replicate, List.length_cons, List.length_nil]; omega) | fail "my_addq2"); intro t' tk') | (refine my_add ?_ ?_; (first | (simp only [List.length_append, List.length_replicate, List.length_cons, List.length_nil]; omega) | fail "my_add"); intro _ _)) | ((with_reducible show wpAny _ _ (call (Value.builtin "len") _ _) _ _ _); (refine my_lenS (by assumption) ?_; intro _ _)) | ((with_reducible show wpAny _ _ (compareOp .NotEq (Value.str _ _) (Value.str _ _)) _ _ _); (refine my_neSame ?_)) | ((with_reducible show wpAny _ _ (binaryOp .Add (Value.str _ _) (Value.str _ _)) _ _ _); first | (with_reducible refine my_addq1 ?_ ?_; (first | (simp only [List.length_append]; omega) | fail "my_addq1"); intro t' tk') | (with_reducible refine my_addq3 ?_ ?_; (first | (simp only [List.length_append]; omega) | fail "my_addq3"); intro t' tk') | (refine my_add ?_ ?_; (first | omega | (simp only [List.length_append, List.length_replicate, List.length_cons, List.length_nil]; omega) | fail "my_add"); intro _ _)) | ((with_reducible show wpAny _ _ (binaryOp .Mult (Value.str _ _) (Value.int _ _)) _ _ _); (refine my_mul (row_pow (by assumption)).1 (row_pow (by assumption)).2 ?_; intro _ _)) | ((with_reducible show wpAny _ _ (newTuple (Value.str _ _ :: _)) _ _ _); (refine newTuple_end ⟨_, rfl⟩ (sgn_item _) (dep_eq _))) | (k_unfold; (try dsimp only)) | (k_end; wrow_close) | walk1 | (dsimp only; walk1) | (leave1; try dsimp only) | fail "no step")
              (rename Fr _ _ _ _ => F4; rename News _ _ _ _ => N4)
              exact C_execs_nil (portEnd_of F4 N4 (fun q hq => hq))
            · intro h34 h92' D9 t' t'' h' tk' F' N'
              repeat' (first | ((with_reducible show wpAny _ _ (subscriptTail (PySem.Expr.Name _ _) _ (Value.ref _) (Value.ref _)) _ _ _); (refine kmk_slice_ints (by k_asm) (by k_asm) (by kmk_list) (by kmk_part) (by kmk_part) (by l_ints) (by exact kmk_from (by l_ints) (by omega)) (by kmk_len) ?_ (by with_unfolding_all rfl) (by kmk_pure) (by kmk_size); intro _ _ _ _ _ l1 _ _ _; (try k_lt l1))) | ((with_reducible show wpAny _ _ (subscriptTail (PySem.Expr.List _ _) _ (Value.ref _) (Value.ref _)) _ _ _); (refine kba_turn (value' := PySem.Expr.Name (PySem.Str.ofString "_") ⟨0, 0, 0, 0⟩) (fun _ => rfl) ?_)) | ((with_reducible show wpAny _ _ (call (Value.ref _) _ _) _ _ _); first | (refine walk_all _ _ _ _ _ _ (by assumption) _ _ _ _ _ _ _ _ _ _ _ _ _ _ _ (by k_asm) (by k_asm) (by assumption) (by k_asm) (by assumption) (by assumption) (by assumption) (by assumption) (by assumption) (by assumption) (by assumption) (by assumption) (by assumption) ?_; intro D' t1' t2' t3' h' tk' F' N') | (refine strip_all _ _ (by omega) (by (rw [S_len]; omega)) (by assumption) _ _ _ _ _ _ _ _ _ _ _ _ _ _ _ (by k_asm) (by k_asm) (by assumption) (by k_asm) (by assumption) (by assumption) (by assumption) (by assumption) ?_; intro _ _ h' tk' _ F' N'; (try rw [(by assumption : outF false _ = _)])) | (refine word_all _ _ _ (by (simp only [List.length_append, List.length_cons, List.length_nil]; omega)) (by (rw [S_len]; simp only [List.length_append, List.length_cons, List.length_nil]; omega)) (by assumption) (by assumption) _ _ _ _ _ _ _ _ _ _ _ _ _ _ _ (by k_asm) (by k_asm) (by assumption) (by k_asm) (by assumption) (by assumption) (by assumption) (by assumption) (by assumption) (by assumption) ?_; intro D' t1' t2' t3' _ _ _ _ h' tk' F' N' _ _; (try rw [(by assumption : lexF false _ = _)] at N'); (try dsimp only at N')) | (refine due_all _ _ (by omega) (by (rw [S_len]; omega)) (by assumption) _ _ _ _ _ _ _ _ _ _ _ _ _ _ _ (by k_asm) (by k_asm) (by assumption) (by k_asm) (by assumption) (by assumption) (by assumption) ?_ ?_ ?_; all_goals (first | (intro hq1; exact absurd (by assumption) hq1) | (intro hq1; exact absurd hq1 (by assumption)) | (intro hq1 hq2; exact absurd (by assumption) hq2) | (intro hq1 hq2; exact absurd hq2 (by assumption)) | intros))) | ((with_reducible show wpAny _ _ (binaryOp .Add (Value.str _ _) (Value.str _ _)) _ _ _); first | (with_reducible refine my_addq1 ?_ ?_; (first | assumption | omega); intro t' tk') | (with_reducible refine my_addq2 ?_ ?_; (first | (simp only [List.length_append, List.length_replicate, List.length_cons, List.length_nil]; omega) | fail "my_addq2"); intro t' tk') | (refine my_add ?_ ?_; (first | (simp only [List.length_append, List.length_replicate, List.length_cons, List.length_nil]; omega) | fail "my_add"); intro _ _)) | ((with_reducible show wpAny _ _ (call (Value.builtin "len") _ _) _ _ _); (refine my_lenS (by assumption) ?_; intro _ _)) | ((with_reducible show wpAny _ _ (compareOp .NotEq (Value.str _ _) (Value.str _ _)) _ _ _); (refine my_neSame ?_)) | ((with_reducible show wpAny _ _ (binaryOp .Add (Value.str _ _) (Value.str _ _)) _ _ _); first | (with_reducible refine my_addq1 ?_ ?_; (first | (simp only [List.length_append]; omega) | fail "my_addq1"); intro t' tk') | (with_reducible refine my_addq3 ?_ ?_; (first | (simp only [List.length_append]; omega) | fail "my_addq3"); intro t' tk') | (refine my_add ?_ ?_; (first | omega | (simp only [List.length_append, List.length_replicate, List.length_cons, List.length_nil]; omega) | fail "my_add"); intro _ _)) | ((with_reducible show wpAny _ _ (binaryOp .Mult (Value.str _ _) (Value.int _ _)) _ _ _); (refine my_mul (row_pow (by assumption)).1 (row_pow (by assumption)).2 ?_; intro _ _)) | ((with_reducible show wpAny _ _ (newTuple (Value.str _ _ :: _)) _ _ _); (refine newTuple_end ⟨_, rfl⟩ (sgn_item _) (dep_eq _))) | (k_unfold; (try dsimp only)) | (k_end; wrow_close) | walk1 | (dsimp only; walk1) | (leave1; try dsimp only) | fail "no step")
              (rename Fr _ _ _ _ => F4; rename News _ _ _ _ => N4)
              exact C_execs_nil (portEnd_of F4 N4 (fun q hq => List.mem_cons_of_mem _ (List.mem_cons_of_mem _ hq)))
          case rest =>
            clear F1 N2
            intro h2 tk2 F2 N2
            have hn8 : ∀ p ∈ (I9, rIter ((i : Int) + 1) (((5 : Nat) : Int) - i - 1) 1) :: rest, p.1 ≠ 123 := fun p hp => by
              rcases List.mem_cons.mp hp with e | hp
              · rw [e]; exact fun z => hnI9 (123, tabObj ps) (List.mem_cons_self ..) z.symm
              · exact hn9' p hp
            have hO8 : TabOk 109 4 ps ((I9, rIter ((i : Int) + 1) (((5 : Nat) : Int) - i - 1) 1) :: rest) := by
              rcases hO9 with e | ⟨c', oc, vs, tq, e, hm, hd, hv⟩
              · exact .inl e
              · exact .inr ⟨c', oc, vs, tq, e, List.mem_cons_of_mem _ hm, hd, hv⟩
            have hyA : Alph ((wfold i (itsOf ns)).2.2.1 ++ (wfold i (itsOf ns)).2.2.2 ++ [34]) := by
              rw [← hstrip]
              exact (alph_out _ false hal).append (fun c hc => by rw [List.mem_singleton.mp hc]; exact .inl rfl)
            refine C_prefix (xs := [_, _, _, _, _]) (ys := []) ?_
            intro P hP
            repeat' (first | ((with_reducible show wpAny _ _ (subscriptTail (PySem.Expr.Name _ _) _ (Value.ref _) (Value.ref _)) _ _ _); (refine kmk_slice_ints (by k_asm) (by k_asm) (by kmk_list) (by kmk_part) (by kmk_part) (by l_ints) (by exact kmk_from (by l_ints) (by omega)) (by kmk_len) ?_ (by with_unfolding_all rfl) (by kmk_pure) (by kmk_size); intro _ _ _ _ _ l1 _ _ _; (try k_lt l1))) | ((with_reducible show wpAny _ _ (subscriptTail (PySem.Expr.List _ _) _ (Value.ref _) (Value.ref _)) _ _ _); (refine kba_turn (value' := PySem.Expr.Name (PySem.Str.ofString "_") ⟨0, 0, 0, 0⟩) (fun _ => rfl) ?_)) | ((with_reducible show wpAny _ _ (call (Value.ref _) _ _) _ _ _); first | (refine walk_all _ _ _ _ _ _ (by assumption) _ _ _ _ _ _ _ _ _ _ _ _ _ _ _ (by k_asm) (by k_asm) (by assumption) (by k_asm) (by assumption) (by assumption) (by assumption) (by assumption) (by assumption) (by assumption) (by assumption) (by assumption) (by assumption) ?_; intro D' t1' t2' t3' h' tk' F' N') | (refine strip_all _ _ (by omega) (by (rw [S_len]; omega)) (by assumption) _ _ _ _ _ _ _ _ _ _ _ _ _ _ _ (by k_asm) (by k_asm) (by assumption) (by k_asm) (by assumption) (by assumption) (by assumption) (by assumption) ?_; intro _ _ h' tk' _ F' N'; (try rw [(by assumption : outF false _ = _)])) | (refine word_all _ _ _ (by (simp only [List.length_append, List.length_cons, List.length_nil]; omega)) (by (rw [S_len]; simp only [List.length_append, List.length_cons, List.length_nil]; omega)) (by assumption) (by assumption) _ _ _ _ _ _ _ _ _ _ _ _ _ _ _ (by k_asm) (by k_asm) (by assumption) (by k_asm) (by assumption) (by assumption) (by assumption) (by assumption) (by assumption) (by assumption) ?_; intro D' t1' t2' t3' _ _ _ _ h' tk' F' N' _ _; (try rw [(by assumption : lexF false _ = _)] at N'); (try dsimp only at N')) | (refine due_all _ _ (by omega) (by (rw [S_len]; omega)) (by assumption) _ _ _ _ _ _ _ _ _ _ _ _ _ _ _ (by k_asm) (by k_asm) (by assumption) (by k_asm) (by assumption) (by assumption) (by assumption) ?_ ?_ ?_; all_goals (first | (intro hq1; exact absurd (by assumption) hq1) | (intro hq1; exact absurd hq1 (by assumption)) | (intro hq1 hq2; exact absurd (by assumption) hq2) | (intro hq1 hq2; exact absurd hq2 (by assumption)) | intros))) | ((with_reducible show wpAny _ _ (binaryOp .Add (Value.str _ _) (Value.str _ _)) _ _ _); first | (with_reducible refine my_addq1 ?_ ?_; (first | assumption | omega); intro t' tk') | (with_reducible refine my_addq2 ?_ ?_; (first | (simp only [List.length_append, List.length_replicate, List.length_cons, List.length_nil]; omega) | fail "my_addq2"); intro t' tk') | (refine my_add ?_ ?_; (first | (simp only [List.length_append, List.length_replicate, List.length_cons, List.length_nil]; omega) | fail "my_add"); intro _ _)) | ((with_reducible show wpAny _ _ (call (Value.builtin "len") _ _) _ _ _); (refine my_lenS (by assumption) ?_; intro _ _)) | ((with_reducible show wpAny _ _ (compareOp .NotEq (Value.str _ _) (Value.str _ _)) _ _ _); (refine my_neSame ?_)) | ((with_reducible show wpAny _ _ (binaryOp .Add (Value.str _ _) (Value.str _ _)) _ _ _); first | (with_reducible refine my_addq1 ?_ ?_; (first | (simp only [List.length_append]; omega) | fail "my_addq1"); intro t' tk') | (with_reducible refine my_addq3 ?_ ?_; (first | (simp only [List.length_append]; omega) | fail "my_addq3"); intro t' tk') | (refine my_add ?_ ?_; (first | omega | (simp only [List.length_append, List.length_replicate, List.length_cons, List.length_nil]; omega) | fail "my_add"); intro _ _)) | ((with_reducible show wpAny _ _ (binaryOp .Mult (Value.str _ _) (Value.int _ _)) _ _ _); (refine my_mul (row_pow (by assumption)).1 (row_pow (by assumption)).2 ?_; intro _ _)) | ((with_reducible show wpAny _ _ (newTuple (Value.str _ _ :: _)) _ _ _); (refine newTuple_end ⟨_, rfl⟩ (sgn_item _) (dep_eq _))) | (k_unfold; (try dsimp only)) | (k_end; wrow_close) | walk1 | (dsimp only; walk1) | (leave1; try dsimp only) | fail "no step")
            (rename Fr _ _ _ _ => F5; rename News _ _ _ _ => N5; rename _ = Data.fields _ => hd7; rename _ = some (Value.str pieceQual _) => hd8; rename AllBare _ => hb7)
            refine hP _ (C_execs_nil ?_)
            refine' round_end N5 hd7 hd8 rfl ?hus ?h2 ?h1 ?h3 ?h4 ?hnI ?hI123 hn9' hsub F5 ?el ?ei ?et hb7 hos9 rfl
            case hus => intro t; intro q; cases q
            case h2 => (with_reducible (repeat (first | exact List.mem_cons_self .. | refine List.mem_cons_of_mem _ ?_)))
            case h1 => (with_reducible (repeat (first | exact List.mem_cons_self .. | refine List.mem_cons_of_mem _ ?_)))
            case h3 => (with_reducible (repeat (first | exact List.mem_cons_self .. | refine List.mem_cons_of_mem _ ?_)))
            case h4 => intro q hq; simp only [List.mem_cons, hq, or_true]
            case hnI => exact fun p hp => hnI9 p (List.mem_cons_of_mem _ hp)
            case hI123 => exact hnI9 _ (List.mem_cons_self ..)
            case el => with_unfolding_all rfl
            case ei => with_unfolding_all rfl
            case et => with_unfolding_all rfl
        case hR => 
          intro m9 nw9 s9 F9 N9 hJ
          obtain ⟨tl, ps, rest, e1, e2, e3, hb9, hos9, rfl, hO9, hsub, hn9'⟩ := hJ
          obtain ⟨tt, e3⟩ := e3 (by decide)
          rw [text_five itsOf_depth] at e1
          have FR := fr_see3 F9 e1 e3 e2
          clear F9 e1 e2 e3 F8 NS F7
          dsimp only
          refine wpC_of ?_
          repeat' (first | ((with_reducible show wpAny _ _ (subscriptTail (PySem.Expr.Name _ _) _ (Value.ref _) (Value.ref _)) _ _ _); (refine kmk_slice_ints (by k_asm) (by k_asm) (by kmk_list) (by kmk_part) (by kmk_part) (by l_ints) (by exact kmk_from (by l_ints) (by omega)) (by kmk_len) ?_ (by with_unfolding_all rfl) (by kmk_pure) (by kmk_size); intro _ _ _ _ _ l1 _ _ _; (try k_lt l1))) | ((with_reducible show wpAny _ _ (subscriptTail (PySem.Expr.List _ _) _ (Value.ref _) (Value.ref _)) _ _ _); (refine kba_turn (value' := PySem.Expr.Name (PySem.Str.ofString "_") ⟨0, 0, 0, 0⟩) (fun _ => rfl) ?_)) | ((with_reducible show wpAny _ _ (call (Value.ref _) _ _) _ _ _); first | (refine walk_all _ _ _ _ _ _ (by assumption) _ _ _ _ _ _ _ _ _ _ _ _ _ _ _ (by k_asm) (by k_asm) (by assumption) (by k_asm) (by assumption) (by assumption) (by assumption) (by assumption) (by assumption) (by assumption) (by assumption) (by assumption) (by assumption) ?_; intro D' t1' t2' t3' h' tk' F' N') | (refine strip_all _ _ (by omega) (by (rw [S_len]; omega)) (by assumption) _ _ _ _ _ _ _ _ _ _ _ _ _ _ _ (by k_asm) (by k_asm) (by assumption) (by k_asm) (by assumption) (by assumption) (by assumption) (by assumption) ?_; intro _ _ h' tk' _ F' N'; (try rw [(by assumption : outF false _ = _)])) | (refine word_all _ _ _ (by (simp only [List.length_append, List.length_cons, List.length_nil]; omega)) (by (rw [S_len]; simp only [List.length_append, List.length_cons, List.length_nil]; omega)) (by assumption) (by assumption) _ _ _ _ _ _ _ _ _ _ _ _ _ _ _ (by k_asm) (by k_asm) (by assumption) (by k_asm) (by assumption) (by assumption) (by assumption) (by assumption) (by assumption) (by assumption) ?_; intro D' t1' t2' t3' _ _ _ _ h' tk' F' N' _ _; (try rw [(by assumption : lexF false _ = _)] at N'); (try dsimp only at N')) | (refine due_all _ _ (by omega) (by (rw [S_len]; omega)) (by assumption) _ _ _ _ _ _ _ _ _ _ _ _ _ _ _ (by k_asm) (by k_asm) (by assumption) (by k_asm) (by assumption) (by assumption) (by assumption) ?_ ?_ ?_; all_goals (first | (intro hq1; exact absurd (by assumption) hq1) | (intro hq1; exact absurd hq1 (by assumption)) | (intro hq1 hq2; exact absurd (by assumption) hq2) | (intro hq1 hq2; exact absurd hq2 (by assumption)) | intros))) | ((with_reducible show wpAny _ _ (binaryOp .Add (Value.str _ _) (Value.str _ _)) _ _ _); first | (with_reducible refine my_addq1 ?_ ?_; (first | assumption | omega); intro t' tk') | (with_reducible refine my_addq2 ?_ ?_; (first | (simp only [List.length_append, List.length_replicate, List.length_cons, List.length_nil]; omega) | fail "my_addq2"); intro t' tk') | (refine my_add ?_ ?_; (first | (simp only [List.length_append, List.length_replicate, List.length_cons, List.length_nil]; omega) | fail "my_add"); intro _ _)) | ((with_reducible show wpAny _ _ (call (Value.builtin "len") _ _) _ _ _); (refine my_lenS (by assumption) ?_; intro _ _)) | ((with_reducible show wpAny _ _ (compareOp .NotEq (Value.str _ _) (Value.str _ _)) _ _ _); (refine my_neSame ?_)) | ((with_reducible show wpAny _ _ (binaryOp .Add (Value.str _ _) (Value.str _ _)) _ _ _); first | (with_reducible refine my_addq1 ?_ ?_; (first | (simp only [List.length_append]; omega) | fail "my_addq1"); intro t' tk') | (with_reducible refine my_addq3 ?_ ?_; (first | (simp only [List.length_append]; omega) | fail "my_addq3"); intro t' tk') | (refine my_add ?_ ?_; (first | omega | (simp only [List.length_append, List.length_replicate, List.length_cons, List.length_nil]; omega) | fail "my_add"); intro _ _)) | ((with_reducible show wpAny _ _ (binaryOp .Mult (Value.str _ _) (Value.int _ _)) _ _ _); (refine my_mul (row_pow (by assumption)).1 (row_pow (by assumption)).2 ?_; intro _ _)) | ((with_reducible show wpAny _ _ (newTuple (Value.str _ _ :: _)) _ _ _); (refine newTuple_end ⟨_, rfl⟩ (sgn_item _) (dep_eq _))) | (k_unfold; (try dsimp only)) | (k_end; wrow_close) | walk1 | (dsimp only; walk1) | (leave1; try dsimp only) | fail "no step")
          (rename Fr _ _ _ _ => F7)
          exact ⟨by simp, F7.keep, ⟨GrownAt.of N9 (List.mem_cons_self ..), True.intro⟩, hos9, hb9⟩
  repeat' (first | ((with_reducible show wpAny _ _ (subscriptTail (PySem.Expr.Name _ _) _ (Value.ref _) (Value.ref _)) _ _ _); (refine kmk_slice_ints (by k_asm) (by k_asm) (by kmk_list) (by kmk_part) (by kmk_part) (by l_ints) (by exact kmk_from (by l_ints) (by omega)) (by kmk_len) ?_ (by with_unfolding_all rfl) (by kmk_pure) (by kmk_size); intro _ _ _ _ _ l1 _ _ _; (try k_lt l1))) | ((with_reducible show wpAny _ _ (subscriptTail (PySem.Expr.List _ _) _ (Value.ref _) (Value.ref _)) _ _ _); (refine kba_turn (value' := PySem.Expr.Name (PySem.Str.ofString "_") ⟨0, 0, 0, 0⟩) (fun _ => rfl) ?_)) | ((with_reducible show wpAny _ _ (call (Value.ref _) _ _) _ _ _); first | (refine walk_all _ _ _ _ _ _ (by assumption) _ _ _ _ _ _ _ _ _ _ _ _ _ _ _ (by k_asm) (by k_asm) (by assumption) (by k_asm) (by assumption) (by assumption) (by assumption) (by assumption) (by assumption) (by assumption) (by assumption) (by assumption) (by assumption) ?_; intro D' t1' t2' t3' h' tk' F' N') | (refine strip_all _ _ (by omega) (by (rw [S_len]; omega)) (by assumption) _ _ _ _ _ _ _ _ _ _ _ _ _ _ _ (by k_asm) (by k_asm) (by assumption) (by k_asm) (by assumption) (by assumption) (by assumption) (by assumption) ?_; intro _ _ h' tk' _ F' N'; (try rw [(by assumption : outF false _ = _)])) | (refine word_all _ _ _ (by (simp only [List.length_append, List.length_cons, List.length_nil]; omega)) (by (rw [S_len]; simp only [List.length_append, List.length_cons, List.length_nil]; omega)) (by assumption) (by assumption) _ _ _ _ _ _ _ _ _ _ _ _ _ _ _ (by k_asm) (by k_asm) (by assumption) (by k_asm) (by assumption) (by assumption) (by assumption) (by assumption) (by assumption) (by assumption) ?_; intro D' t1' t2' t3' _ _ _ _ h' tk' F' N' _ _; (try rw [(by assumption : lexF false _ = _)] at N'); (try dsimp only at N')) | (refine due_all _ _ (by omega) (by (rw [S_len]; omega)) (by assumption) _ _ _ _ _ _ _ _ _ _ _ _ _ _ _ (by k_asm) (by k_asm) (by assumption) (by k_asm) (by assumption) (by assumption) (by assumption) ?_ ?_ ?_; all_goals (first | (intro hq1; exact absurd (by assumption) hq1) | (intro hq1; exact absurd hq1 (by assumption)) | (intro hq1 hq2; exact absurd (by assumption) hq2) | (intro hq1 hq2; exact absurd hq2 (by assumption)) | intros))) | ((with_reducible show wpAny _ _ (binaryOp .Add (Value.str _ _) (Value.str _ _)) _ _ _); first | (with_reducible refine my_addq1 ?_ ?_; (first | assumption | omega); intro t' tk') | (with_reducible refine my_addq2 ?_ ?_; (first | (simp only [List.length_append, List.length_replicate, List.length_cons, List.length_nil]; omega) | fail "my_addq2"); intro t' tk') | (refine my_add ?_ ?_; (first | (simp only [List.length_append, List.length_replicate, List.length_cons, List.length_nil]; omega) | fail "my_add"); intro _ _)) | ((with_reducible show wpAny _ _ (call (Value.builtin "len") _ _) _ _ _); (refine my_lenS (by assumption) ?_; intro _ _)) | ((with_reducible show wpAny _ _ (compareOp .NotEq (Value.str _ _) (Value.str _ _)) _ _ _); (refine my_neSame ?_)) | ((with_reducible show wpAny _ _ (binaryOp .Add (Value.str _ _) (Value.str _ _)) _ _ _); first | (with_reducible refine my_addq1 ?_ ?_; (first | (simp only [List.length_append]; omega) | fail "my_addq1"); intro t' tk') | (with_reducible refine my_addq3 ?_ ?_; (first | (simp only [List.length_append]; omega) | fail "my_addq3"); intro t' tk') | (refine my_add ?_ ?_; (first | omega | (simp only [List.length_append, List.length_replicate, List.length_cons, List.length_nil]; omega) | fail "my_add"); intro _ _)) | ((with_reducible show wpAny _ _ (binaryOp .Mult (Value.str _ _) (Value.int _ _)) _ _ _); (refine my_mul (row_pow (by assumption)).1 (row_pow (by assumption)).2 ?_; intro _ _)) | ((with_reducible show wpAny _ _ (newTuple (Value.str _ _ :: _)) _ _ _); (refine newTuple_end ⟨_, rfl⟩ (sgn_item _) (dep_eq _))) | (k_unfold; (try dsimp only)) | (k_end; wrow_close) | walk1 | (dsimp only; walk1) | (leave1; try dsimp only) | fail "no step")
  (rename IntsAre _ _ => hI7; rename Fr _ _ _ _ => F7; rename News _ _ _ _ => N7)
  refine key _ _ _ _ _ _ 0 F7 (news_sub N7 (fun q hq => ?_)) hI7 ?_
  · rcases List.mem_cons.mp hq with e | hq
    · rw [e]; exact List.mem_cons_self ..
    · rw [List.mem_singleton.mp hq]; (with_reducible (repeat (first | exact List.mem_cons_self .. | refine List.mem_cons_of_mem _ ?_)))
  · simp only [List.length_append, List.length_map, List.length_drop, List.length_take, List.length_cons, List.length_nil, Int.toNat_natCast]
    omega)
end Mine
end

theorem PySem.Challenge.cw_tl0004_01_holds : PySem.Challenge.rw_tl0004_01.Holds :=
  Mine.law_all

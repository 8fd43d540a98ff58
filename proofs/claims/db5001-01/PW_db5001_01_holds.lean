import PyProof.Rows.All
import Wide.All
import OpenK.AllK
import Wide.FinOn
import PySem.Challenge.RW_db5001_01
set_option Elab.async false
section
open PySem PySem.W PySem.Calls PyProof.Rows
namespace Mine
open Sem (wp)

/-- the caller of the claim stands below -/
def CB (Γ : Ctx) : Prop := (Γ.below.any fun x => x.1.isCaller) = true
def CH (Γ : Ctx) : Prop := CB Γ ∨ Γ.code.isCaller = true

def wpC {α : Type} (M : Model) (A : Around) (t : Sem α) (Q : α → Shared → Prop) (E : Value → Shared → Prop) (s : Shared) : Prop :=
  ∀ Γ p, Γ.In A → CH Γ → wp M Γ t (fun a _ s' => Q a s') (fun e _ s' => E e s') p s
def codeC (M : Model) (A : Around) (c : Code) (R : Result → Shared → Prop) (s : Shared) : Prop :=
  ∀ Γ p, Γ.code = c → Γ.Below A → CB Γ → wpCode M Γ R p s

section
variable {α β : Type} {M : Model} {A : Around} {E : Value → Shared → Prop} {s : Shared}

theorem cOf {t : Sem α} {Q : α → Shared → Prop} (h : wpAny M A t Q E s) : wpC M A t Q E s := fun Γ p hΓ _ => h Γ p hΓ
theorem codeOf {c : Code} {R : Result → Shared → Prop} (h : codeAny M A c R s) : codeC M A c R s := fun Γ p hc hΓ _ => h Γ p hc hΓ

theorem wpC_mono {t : Sem α} {Q Q' : α → Shared → Prop} {E' : Value → Shared → Prop} (h : wpC M A t Q E s)
    (hQ : ∀ a s, Q a s → Q' a s) (hE : ∀ e s, E e s → E' e s) : wpC M A t Q' E' s :=
  fun Γ p hΓ hc => Sem.wp_mono M Γ t (fun a _ s => hQ a s) (fun e _ s => hE e s) p s (h Γ p hΓ hc)
theorem codeC_mono {c : Code} {R R' : Result → Shared → Prop} (h : codeC M A c R s) (hR : ∀ r s, R r s → R' r s) : codeC M A c R' s :=
  fun Γ p hc hΓ hb => wpCode_mono hR (h Γ p hc hΓ hb)

theorem wpC_bind {m : Sem α} {f : α → Sem β} {Q : β → Shared → Prop} (h : wpC M A m (fun a s' => wpC M A (f a) Q E s') E s) :
    wpC M A (m >>= f) Q E s := fun Γ p hΓ hc => by
  rw [Sem.wp_bind']
  exact Sem.wp_mono M Γ m (fun a p' s' h' => h' Γ p' hΓ hc) (fun _ _ _ h' => h') p s (h Γ p hΓ hc)
/-- a first part without the caller, then the rest with it -/
theorem wpC_then {m : Sem α} {f : α → Sem β} {Q : β → Shared → Prop} (h : wpAny M A m (fun a s' => wpC M A (f a) Q E s') E s) :
    wpC M A (m >>= f) Q E s := wpC_bind (cOf h)
/-- the first part raises -/
theorem wpC_first {m : Sem α} {f : α → Sem β} {Q : β → Shared → Prop} (h : wpC M A m (fun _ _ => False) E s) :
    wpC M A (m >>= f) Q E s := wpC_bind (wpC_mono h (fun _ _ x => x.elim) fun _ _ x => x)
theorem wpC_pure {a : α} {Q : α → Shared → Prop} (h : Q a s) : wpC M A (pure a) Q E s := fun _ _ _ _ => h
theorem wpC_onRaise {m : Sem α} {k : Value → Sem Unit} {Q : α → Shared → Prop}
    (h : wpC M A m Q (fun e s' => wpC M A (k e) (fun _ s'' => E e s'') E s') s) : wpC M A (m.onRaise k) Q E s := fun Γ p hΓ hc => by
  rw [Sem.wp_onRaise]
  exact Sem.wp_mono M Γ m (fun _ _ _ h' => h') (fun e p' s' h' => h' Γ p' hΓ hc) p s (h Γ p hΓ hc)
theorem wpC_attempt {m : Sem α} {Q : Except Value α → Shared → Prop} (h : wpC M A m (fun a => Q (.ok a)) (fun e => Q (.error e)) s) :
    wpC M A m.attempt Q E s := fun Γ p hΓ hc => by rw [Sem.wp_attempt]; exact h Γ p hΓ hc
theorem wpC_holding {vs : List Value} {m : Sem α} {Q : α → Shared → Prop} (h : wpC M A m Q E s) : wpC M A (holding vs m) Q E s :=
  fun Γ p hΓ hc => by rw [Sem.wp_holding]; exact h Γ p hΓ hc
theorem wpC_keep {vs : List Value} {m : Sem α} {Q : α → Shared → Prop} (h : wpC M A m Q E s) : wpC M A (m.keep vs) Q E s :=
  fun Γ p hΓ hc => by rw [Sem.wp_keep]; exact h Γ p hΓ hc
theorem wpC_standAt {pos : Pos} {f : Unit → Sem β} {Q : β → Shared → Prop} (h : wpC M A (f ()) Q E s) : wpC M A (standAt pos >>= f) Q E s := wpC_then (wpAny_standAt h)

theorem CB_enter {Γ : Ctx} (c : Code) (hd : Option Value) (p : Pos) (h : CH Γ) : CB (Γ.enter c hd p) := by
  show (((Γ.code, p) :: Γ.below).any fun x => x.1.isCaller) = true
  rw [List.any_cons]
  rcases h with h | h
  · rw [show (Γ.below.any fun x => x.1.isCaller) = true from h, Bool.or_true]
  · rw [h, Bool.true_or]

theorem wpC_run {c : Code} {h : Option Value} {Q : Flow → Shared → Prop}
    (hc : codeC M (A.mark h) c (fun r s' => match r with | .ok f => Q f s' | .error e => E e s') s) (hnb : h ≠ some byPass := by intro x; cases x) :
    wpC M A (run c h) Q E s :=
  fun Γ p hΓ hb => by rw [Sem.wp_run]; exact hc _ p rfl (hΓ.enter c h p hnb) (CB_enter c h p hb)
theorem wpC_runValue {c : Code} {Q : Value → Shared → Prop}
    (hc : codeC M A c (fun r s' => match r with | .ok (.ret v) => Q v s' | .ok _ => False | .error e => E e s') s) :
    wpC M A (runValue c) Q E s := fun Γ p hΓ hb => by rw [Sem.wp_runValue]; exact hc _ p rfl (hΓ.enter c none p (by intro x; cases x)) (CB_enter c none p hb)
theorem wpC_call {f : Value} {pos : List Value} {kw : List (Str × Value)} {Q : Value → Shared → Prop}
    (hc : codeC M A (.call f ⟨pos, kw⟩) (fun r s' => match r with | .ok (.ret v) => Q v s' | .ok _ => False | .error e => E e s') s) :
    wpC M A (call f pos kw) Q E s := wpC_runValue hc

theorem codeC_of_tree {c : Code} {R : Result → Shared → Prop}
    (h : wpC M (A.under c) (M.den c) (fun fin s' => match fin with | .done f => R (.ok f) s' | .again c' => c'.quiet = true ∧ codeC M A c' R s')
      (fun e s' => R (.error e) s') s) : codeC M A c R s := fun Γ p hc hΓ hb => by
  rw [wpCode_iff_wp, hc]
  refine Sem.wp_mono M Γ _ (fun fin p' s' h' => ?_) (fun _ _ _ h' => h') p s (h Γ p (hc ▸ hΓ.in) (.inl hb))
  cases fin with
  | done f => exact h'
  | again c' => exact ⟨h'.1, h'.2 (Γ.goto c') p' rfl (hΓ.goto c') hb⟩

theorem wpC_execs_cons {env : Env} {st rest} {Q : Flow → Shared → Prop}
    (h : wpC M A (exec st env) (fun f s' => match f with | .next => wpC M A (execs rest env) Q E s' | f => Q f s') E s) :
    wpC M A (execs (st :: rest) env) Q E s := fun Γ p hΓ hc => by
  rw [execs_cons, Sem.wp_bind']
  refine Sem.wp_mono M Γ _ (fun f p' s' h' => ?_) (fun _ _ _ h' => h') _ _ (h Γ p hΓ hc)
  cases f <;> first | exact h' Γ p' hΓ hc | exact h'
theorem wp_execs_app {Γ : Ctx} {env : Env} {rest : List Stmt} {Q : Flow → Pos → Shared → Prop} {X : Value → Pos → Shared → Prop} : ∀ (l : List Stmt) (p : Pos) (s : Shared),
    wp M Γ (execs l env) (fun f p' s' => match f with | .next => wp M Γ (execs rest env) Q X p' s' | f => Q f p' s') X p s → wp M Γ (execs (l ++ rest) env) Q X p s
  | [], _, _, h => h
  | st :: l, p, s, h => by
    rw [execs_cons, Sem.wp_bind'] at h
    rw [List.cons_append, execs_cons, Sem.wp_bind']
    refine Sem.wp_mono M Γ _ (fun f p' s' h' => ?_) (fun _ _ _ h' => h') _ _ h
    cases f <;> first | exact wp_execs_app l p' s' h' | exact h'
/-- the first statements without the caller, the rest with it -/
theorem wpC_execs_split {env : Env} {l rest : List Stmt} {Q : Flow → Shared → Prop}
    (h : wpAny M A (execs l env) (fun f s' => match f with | .next => wpC M A (execs rest env) Q E s' | f => Q f s') E s) : wpC M A (execs (l ++ rest) env) Q E s := fun Γ p hΓ hc => by
  refine wp_execs_app l p s (Sem.wp_mono M Γ _ (fun f p' s' h' => ?_) (fun _ _ _ h' => h') _ _ (h Γ p hΓ))
  cases f <;> first | exact h' Γ p' hΓ hc | exact h'
end
end Mine

end
section
open PySem PySem.W PySem.Calls PyProof.Rows
namespace Mine
open Sem (wp)

/-- all that stood stands -/
abbrev Later (h h' : Heap) : Prop := ∀ b o, h.get? b = some o → h'.get? b = some o
/-- where the def stands as the call begins -/
structure DefAt (mg : Str → Option Value) (h : Heap) (d : DefRec) (kwd : List (Str × Expr)) (a : Addr) (o : Obj) (pm cd doc dV kV : Value) : Prop where
  obj : h.get? a = some o
  data : o.data = .func { docDef d.name d.params d.body d.scope pm cd doc with defaults := dV, kwdefaults := kV }
  code : h.CodeRec cd d.name
  dflts : Dflts mg h d.params kwd dV kV
  bound : mg d.name = some (.ref a)
/-- the arguments, laid -/
structure ArgsAt (r : RowW) (w : World) (s₀ s₁ : Shared) (args : List WData) (vals : List Value) (as : List Addr) : Prop where
  pre : r.claim.pre args = true
  layable : WData.layableAll args = true
  reads : ReadsAllW r.records (classAt s₀.heap) s₁.heap vals args as
  well : WellAll w.params s₁.heap vals args
  off : ∀ a ∈ as, (a == sysModules) = false
/-- what the walk has to show: the call, with the caller known -/
abbrev WalkC (q : Program) (loose : List Str) (XP : (Str → Option Value) → Heap → Prop) (YP : World → Heap → Prop) (r : RowW) (d : DefRec) (kwd : List (Str × Expr)) : Prop :=
  ∀ (w : World) (s₀ s₁ : Shared) (mg mb : Str → Option Value), Ground q loose r.records XP w s₀ mg mb s₁.heap → YP w s₁.heap → s₁.gens = #[] →
    ∀ (a : Addr) (o : Obj) (pm cd doc dV kV : Value), DefAt mg s₁.heap d kwd a o pm cd doc dV kV → ∀ (args : List WData) (vals : List Value) (as : List Addr), ArgsAt r w s₀ s₁ args vals as →
      wpC (model r.prog w) callerA (PySem.call (.ref a) vals) (fun v s' => GoodWG r.claim (classAt s₀.heap) (ExcName.means s₀.heap) args s₁ (.ok (.ret v)) s')
        (fun e s' => GoodWG r.claim (classAt s₀.heap) (ExcName.means s₀.heap) args s₁ (.error e) s') s₁

/-- the claim's own thread halts where the call ends well under the caller -/
theorem stub_ends {prog : Program} {w : World} {name : Str} {vs : List Value} {s : Shared} {mg : Str → Option Value} {f : Value} {R : Result → Shared → Prop}
    (hz : s.asleep) (hg : s.heap.Ns mainGlobals mg) (hf : mg name = some f) (hR : ∀ r s', R r s' → AllBare s'.gens)
    (h : wpC (model prog w) callerA (PySem.call f vs) (fun v s' => R (.ok (.ret v)) s') (fun e s' => R (.error e) s') s) :
    ∃ n r s' e, schedN (denote table) prog w n (.single s (callStub name vs)) = .halted (outcomeOf r) s' ∧ s'.heap.life = s.heap.life ∧ s'.heap = e.heap ∧ s'.os = e.os ∧ R r e := by
  have bare := fun r s' (x : R r s') => And.intro x (leftWithCleanup_false_of_bare (hR r s' x))
  have whole := wpC_then (M := model prog w) (A := callerA) (E := fun e s' => R (.error e) s' ∧ leftWithCleanup s'.gens = false) (Q := fun fin s' => ∃ v, fin = .done (.ret v) ∧ R (.ok (.ret v)) s')
    (f := fun v? => match v? with
      | some f => do ret (← PySem.call f vs)
      | none => unsupported "claim.caller:no-such-global")
    (wpAny_nsGet hg (by rw [hf]; exact wpC_bind (wpC_mono h (fun v _ x => wpC_pure ⟨v, rfl, x⟩) fun e s' x => bare _ _ x)))
  have here := whole ⟨.builtin "claim.caller" {}, none, none, [], none⟩ default caller_in (.inr rfl)
  obtain ⟨n, r, e, s', hs, hr, hfo, x⟩ := wp_halts_full (M := model prog w) (R := R) (c := .builtin "claim.caller" {}) hz
    (Sem.wp_mono _ _ _ (fun fin _ s' x => by obtain ⟨v, rfl, y⟩ := x; exact bare _ _ y) (fun _ _ _ x => x) _ _ here)
  have same := Shared.forget_eq hfo
  exact ⟨n, r, s', e, hs, runN_life _ _ _ hr, same.1, same.2.2.2.1, x⟩

/-- the head with the caller known: under this name within the namespace, so that the library's own word for the head takes it -/
theorem PySem.W.holds_open {r : OpenRow} {q : Program} {loose : List Str} {Xt : Shared → Bool} {XP : (Str → Option Value) → Heap → Prop} {α : Type} {Yf : Shared → α} {Ya : World → α} {YP : World → Heap → Prop} {N : Nat} {d : DefRec} {kwd : List (Str × Expr)}
    (left : LeftO r.prog q loose Xt Yf Ya N) (says : ∀ w s, Yf s = Ya w → YP w s.heap) (saysOn : ∀ w h h', YP w h → Later h h' → YP w h')
    (seen : ∀ s, Xt s = true → XP (s.heap.nsMap mainGlobals) s.heap) (seenOn : ∀ mg h h', XP mg h → Later h h' → XP mg h')
    (hdef : defOf q r.name = some (d, kwd)) (theDef : r.prog.theDef r.name = some (d.params, d.body, d.scope)) (written : kwWritten? d.params.kwonlyargs d.params.kw_defaults = some kwd)
    (recs : ∀ s, Xt s = true → RecFacts r.records s.heap) (table : (!r.writes || r.records.isEmpty) = true) (said : r.wellSaid = true)
    (looks : (chainsOk q && opensWell r.prog && (frees r.toRowW && r.within.isEmpty)) = true) (bare : r.prog.bare) (promised : r.toRowW.promised)
    (walk : WalkC q loose XP YP r.toRowW d kwd) : r.Holds := by
  simp only [Bool.and_eq_true, List.isEmpty_iff] at looks
  obtain ⟨⟨chains, opens⟩, free, within⟩ := looks
  obtain ⟨same, under, after, apart, makers⟩ := frees_parts free
  have behind := fun w => left.behind (XP := fun mg h => XP mg h ∧ RecFacts r.records h) (fun s x => ⟨seen s x, recs s x⟩) chains w
  refine ⟨said, promised, ⟨bare, opens, ?makers⟩, promised.witness, fun w => ⟨(behind w).1, fun s' x => ?run⟩⟩
  case makers => show r.makers.map _ = []; rw [makers]; rfl
  case run =>
    obtain ⟨s₀, fence, none, s, ran, asleep, gens, main, G, y⟩ := (behind w).2 s' x
    have facts := G.X.2
    have G' : Ground q loose [] XP w s (s.heap.nsMap mainGlobals) (s.heap.nsMap builtinsNs) s.heap := { G with X := G.X.1 }
    have bareGens : s.gens = #[] := by simpa using gens
    refine ⟨s₀, fence, none, s, ran, fun n hn => ?pin, facts.1, facts.2.1, fun args pre lay ord perm => ?call⟩
    case pin =>
      split at hn
      · rw [List.mem_singleton] at hn
        subst hn
        exact pinned_of_view main G' hdef theDef written
      · cases hn
    case call =>
      have GR := facts.ground G'
      obtain ⟨⟨vs, s₁⟩, laid⟩ := Option.isSome_iff_exists.mp (layAllW_isSome (P := w.params) (ord := ord) GR.has args r.args s (pre_splitW pre).1)
      have later : Later s.heap s₁.heap := layAllW_keeps _ _ _ laid
      have alike := layAllW_rest _ _ _ laid
      obtain ⟨as, reads, inside, old⟩ := reads_layAllW perm _ _ _ laid lay s₁.heap (fun _ _ e => e)
      have L : Laid r.records w s s₁ args vs as := { laid := ⟨ord, perm, laid⟩, reads := reads, within := inside, old := old, keeps := later, gens := alike.1.trans bareGens, os := alike.2.2.1 }
      have G₁ := GR.keeps seenOn later
      obtain ⟨a, o, pm, cd, doc, dV, kV, h1, h2, h3, h4, h5⟩ := G₁.fn hdef
      have W := walk w s s₁ _ _ G₁ (saysOn _ _ _ (says w s y) later) L.gens a o pm cd doc dV kV ⟨h2, h3, h4, h5, defOf_name hdef ▸ h1⟩ args vs as ⟨pre, lay, L.reads, L.well, L.low GR.low⟩
      obtain ⟨n, res, s₂, e, run, life, heap, os, good⟩ := stub_ends (R := fun res s' => GoodWG r.claim (classAt s.heap) (ExcName.means s.heap) args s₁ res s') (Shared.asleep_of_life alike.2.2.2 asleep) G₁.T.g h1 (fun _ _ g => g.2.2.2) W
      have ends := good.laid (c := r.claim) same (show r.claim.within = [] from within) (ident_freeW under after apart) L
      refine ⟨vs, s₁, laid, n, _, s₂, run, ?out, fun _ i z hz => ?noGen, fun on => ⟨?names, ?cls⟩, congrArg Life.seen (life.trans alike.2.2.2), Shared.rest_eq (os.trans ends.2.1)⟩
      case noGen => rw [bareGens] at hz; simp at hz
      case names => rw [heap]; exact namesKept_of ran main _ later good.2.1.old
      case cls => rw [heap]; exact noTable table on
      case out =>
        rw [heap]
        rcases ends.1 with ⟨v, rfl, t1, t2, t3, t4, t5⟩ | ⟨x, ob, c, rfl, t1, t2, t3, t4, t5⟩
        · exact .inl ⟨v, rfl, t1, t2, t3, fun b o hb _ => t4 b o hb, t5⟩
        · exact .inr ⟨x, ob, c, rfl, t1, t2, t3, t4, fun b o hb _ => t5 b o hb⟩
end Mine

end
section
open PySem PySem.W PyProof.Rows
namespace Mine
set_option maxRecDepth 100000 in
set_option maxHeartbeats 8000000 in
open_top hd for PySem.Challenge.rw_db5001_01
end Mine

end
section
open PySem PySem.W PyProof.Rows
namespace Mine
theorem filled : PySem.Challenge.rw_db5001_01 = PySem.Challenge.rw_db5001_01 ∧ hd.heap_39 = hd.heap_39 := by k_fill; exact ⟨rfl, rfl⟩

/-- one of the three classes -/
def IsC (C : Addr) : Prop := C = 243 ∨ C = 281 ∨ C = 310
/-- a token of the ledger: its class, its number -/
def tokDict (P : Params) (n : Int) (a b : Tok) : Obj := dictOf [⟨PyData.keyHash P (Str.ofString "value"), .str (Str.ofString "value") a, .int n b⟩] 1
structure TokIn (P : Params) (news : List (Addr × Obj)) (x : Addr) (C : Addr) (n : Int) : Prop where
  cls : IsC C
  own : ∃ dx a b, (x, instObj C dx) ∈ news ∧ (dx, tokDict P n a b) ∈ news
theorem TokIn.mono {P : Params} {news news' : List (Addr × Obj)} {x C : Addr} {n : Int} (h : TokIn P news x C n) (hs : ∀ p ∈ news, p ∈ news') : TokIn P news' x C n :=
  ⟨h.cls, let ⟨dx, a, b, h1, h2⟩ := h.own; ⟨dx, a, b, hs _ h1, hs _ h2⟩⟩

section
variable {prog : Program} {w : World} {A : Around} {E : Value → Shared → Prop} {s : Shared} {x C L : Addr} {h₀ : Heap} {m : Str → Option Value} {news : List (Addr × Obj)} {n : Int}

theorem tok_inst (N : News h₀ L s.heap news) (t : TokIn w.params news x C n) : ∃ dx a b, InstAt s.heap x (instObj C dx) C (some (dictOf [⟨PyData.keyHash w.params (Str.ofString "value"), .str (Str.ofString "value") a, .int n b⟩] 1)) := by
  obtain ⟨dx, a, b, h1, h2⟩ := t.own
  exact ⟨dx, a, b, InstAt.of_news N h1 h2⟩

theorem tok_value {expr : Bool} {Q : Value → Shared → Prop} (F : Fr h₀ L s.heap m) (X₀ : (hd.heap_39 w.params).In h₀) (N : News h₀ L s.heap news) (t : TokIn w.params news x C n)
    (h : ∀ u, Q (.int n u) { s with toks := s.toks + 1 }) : wpAny (model prog w) A (getAttr (.ref x) (Str.ofString "value") expr) Q E s := by
  obtain ⟨dx, a, b, I⟩ := tok_inst N t
  rcases t.cls with rfl | rfl | rfl
  · refine' get_own ?k1 ?k2 ?k3 ?k4 ?k5 ?k6 ?k7 ?k8 ?k9 ?_; (case k1 => k_asm); (case k2 => k_asm); (case k3 => exact I); (case k4 => k_is); (case k5 => k_is); (case k6 => k_is); (case k7 => k_is); (case k8 => k_get); (case k9 => k_handed); exact h _
  · refine' get_own ?k1 ?k2 ?k3 ?k4 ?k5 ?k6 ?k7 ?k8 ?k9 ?_; (case k1 => k_asm); (case k2 => k_asm); (case k3 => exact I); (case k4 => k_is); (case k5 => k_is); (case k6 => k_is); (case k7 => k_is); (case k8 => k_get); (case k9 => k_handed); exact h _
  · refine' get_own ?k1 ?k2 ?k3 ?k4 ?k5 ?k6 ?k7 ?k8 ?k9 ?_; (case k1 => k_asm); (case k2 => k_asm); (case k3 => exact I); (case k4 => k_is); (case k5 => k_is); (case k6 => k_is); (case k7 => k_is); (case k8 => k_get); (case k9 => k_handed); exact h _
end
end Mine

end
section
open PySem PySem.W PyProof.Rows
namespace Mine

/-- where a step of the walk stands: the frame, the ledger, the written part, room for k calls -/
structure Cx (k : Nat) (w : World) (A : Around) (base h₀ : Heap) (env : Env) (outer : List Env) (L : Addr) (m : Str → Option Value) (news : List (Addr × Obj)) (h : Heap) : Prop where
  B : ∃ A₀, Below A₀ base outer h₀
  F : Fr h₀ L h m
  N : News h₀ L h news
  X : (hd.heap_39 w.params).In h₀
  T : ∃ p loose mean mg mb, Top p loose mean mg mb h₀
  hA : A.frames = some (env :: outer)
  hf : env.frame = some L
  hk : env.scope.kind = .function
  room : A.depth + k ≤ 900
  units : A.units + 10 * k ≤ 9000

section
variable {w : World} {A A₀ : Around} {L : Addr} {h₀ base h h' : Heap} {m mg mb m' : Str → Option Value} {news news' : List (Addr × Obj)} {p : Program} {loose : List Str} {mean : ExcName → Option Value} {env : Env} {outer : List Env} {k k' : Nat}
theorem Cx.mk' (B : Below A base outer h₀) (F : Fr h₀ L h m) (N : News h₀ L h news) (X : (hd.heap_39 w.params).In h₀) (T : Top p loose mean mg mb h₀) (hf : env.frame = some L) (hk : env.scope.kind = .function)
    (room : A.depth + (k + 1) ≤ 900) (units : A.units + 10 * (k + 1) ≤ 9000) : Cx k w (A.deeper env) base h₀ env outer L m news h :=
  ⟨⟨_, B⟩, F, N, X, ⟨_, _, _, _, _, T⟩, Around.frames_deeper B.stack, hf, hk, by show A.depth + 1 + k ≤ 900; omega, by show A.units + 3 + 10 * k ≤ 9000; omega⟩
theorem Cx.in1 (c : Cx (k + 1) w A base h₀ env outer L m news h) : Cx k w A.in1 base h₀ env outer L m news h :=
  ⟨c.B, c.F, c.N, c.X, c.T, c.hA, c.hf, c.hk, by have := c.room; show A.depth + k ≤ 900; omega, by have := c.units; show A.units + 1 + 10 * k ≤ 9000; omega⟩
theorem Cx.on (c : Cx k w A base h₀ env outer L m news h) (F : Fr h₀ L h' m') (N : News h₀ L h' news') : Cx k w A base h₀ env outer L m' news' h' :=
  ⟨c.B, F, N, c.X, c.T, c.hA, c.hf, c.hk, c.room, c.units⟩
theorem Cx.le (c : Cx k w A base h₀ env outer L m news h) (hk : k' ≤ k) : Cx k' w A base h₀ env outer L m news h :=
  ⟨c.B, c.F, c.N, c.X, c.T, c.hA, c.hf, c.hk, by have := c.room; omega, by have := c.units; omega⟩
theorem Cx.hu (c : Cx k w A base h₀ env outer L m news h) : A.units < cLine := by have := c.units; show A.units < 9900; omega
theorem Cx.hX (c : Cx k w A base h₀ env outer L m news h) : (hd.heap_39 w.params).In h := c.X.keeps c.F.keep
end

local macro_rules | `(tactic| walk_at "getAttr ref") => `(tactic| (k_here; (with_reducible show wpAny _ _ (getAttr (Value.ref _) (PySem.Str.ofString "value") _) _ _ _); k_dflt (refine' tok_value ?k1 ?k2 ?k3 ?k4 ?_; (case k1 => k_asm); (case k2 => k_asm); (case k3 => k_asm); (case k4 => assumption)); intro u'))
section
variable {prog : Program} {w : World} {A : Around} {s : Shared} {base h₀ : Heap} {m : Str → Option Value} {news : List (Addr × Obj)} {L : Addr} {k : Nat}
/-- a def of the text is called -/
theorem code_cx {env : Env} {outer : List Env} {R : Result → Shared → Prop} {name qual : Str} {params : Arguments} {body : List Stmt} {scope : Scope} {dV kV doc pm cdv ct oc : Value} {an od : Option Addr} {osl : Array (Option Value)} {f : Addr} {args : Args} {binds : List (Str × Value)}
    (c : Cx (k + 1) w A base h₀ env outer L m news s.heap)
    (ho : (hd.heap_39 w.params).lookup f = some ⟨oc, od, .func (fnOf name qual params body scope dV kV doc pm an cdv ct), osl⟩) (hcd : codeIn (hd.heap_39 w.params) cdv qual = true)
    (hbind : BindsTo s (fnOf name qual params body scope dV kV doc pm an cdv ct) args binds) (hloc : ∀ y ∈ binds, scope.names.lookup y.1 = some .local)
    (hco : scope.isCoroutine = false) (hgen : scope.isGenerator = false) (hk : scope.kind = .function) (hcell : ∀ x ∈ scope.names, x.2 ≠ .cell)
    (h : ∀ g L' h₁ p loose mean mg mb, Fr h₀ L g m → Fr g L' h₁ (fun y => binds.reverse.lookup y) → News g L' h₁ news → Below A base (env :: outer) g → (hd.heap_39 w.params).In g → Top p loose mean mg mb g →
      Cx k w (A.deeper (envOf qual scope L' f cdv)) base g (envOf qual scope L' f cdv) (env :: outer) L' (fun y => binds.reverse.lookup y) news h₁ →
      wpAny (model prog w) (A.deeper (envOf qual scope L' f cdv)) (execs body (envOf qual scope L' f cdv))
        (fun fl s' => LeaveK h₀ L m g R (match fl with | .ret v => v | _ => .none) s')
        (fun e s' => wpAny (model prog w) (A.deeper (envOf qual scope L' f cdv)) (leaving (envOf qual scope L' f cdv) e) (fun _ s'' => R (.error e) s'') (fun e' s'' => R (.error e') s'') s')
        { s with heap := h₁, toks := s.toks + binds.length }) : codeAny (model prog w) A (.call (.ref f) args) R s := by
  obtain ⟨A₀, B⟩ := c.B
  obtain ⟨p, loose, mean, mg, mb, T⟩ := c.T
  have hroom : A.depth < recursionLimit := by have := c.room; show A.depth < 1000; omega
  exact code_def B c.F c.X c.N T c.hA c.hf c.hk ho hcd hroom hbind hloc (fun g L' h₁ F₀ F' N' B' X' T' => h g L' h₁ p loose mean mg mb F₀ F' N' B' X' T' (Cx.mk' B' F' N' X' T' rfl hk c.room c.units)) hco hgen hk hcell
end
local macro_rules | `(tactic| k_enter) => `(tactic| (refine' code_cx (by assumption) ?k6 ?k7 ?k9 ?kB ?c2 ?c3 ?c4 ?c5 ?_; (case k6 => k_is); (case k7 => k_is); (case k9 => exact BindsTo.of_eq rfl); (case c5 => decide); (case kB => exact locs rfl); (case c2 => exact rfl); (case c3 => exact rfl); (case c4 => exact rfl); k_whole; intro g' L' h' p' l' n' mg' mb' FG' F' N' B' X' T' C'; (try dsimp only)))

section
variable {prog : Program} {w : World} {A : Around} {s : Shared} {x y C D L : Addr} {h₀ base : Heap} {m : Str → Option Value} {news : List (Addr × Obj)} {a b : Int} {env : Env} {outer : List Env} {R : Result → Shared → Prop} {E : Value → Shared → Prop} {k : Nat}
set_option maxRecDepth 100000
set_option maxHeartbeats 4000000
theorem eq_code (c : Cx (k + 1) w A base h₀ env outer L m news s.heap) (tx : TokIn w.params news x C a) (ty : TokIn w.params news y D b)
    (h : ∀ h' tk, Fr h₀ L h' m → News h₀ L h' news → R (.ok (.ret (.bool (a == b)))) { s with heap := h', toks := tk }) :
    codeAny (model prog w) A (.call (.ref 219) ⟨[.ref x, .ref y], []⟩) R s := by
  have X₀ := c.X
  obtain ⟨_, _, _, _, _, T⟩ := c.T
  k_enter
  k_steps
  exact h _ _ (by assumption) (by assumption)
theorem lt_code (c : Cx (k + 1) w A base h₀ env outer L m news s.heap) (tx : TokIn w.params news x C a) (ty : TokIn w.params news y D b)
    (h : ∀ h' tk, Fr h₀ L h' m → News h₀ L h' news → R (.ok (.ret (.bool (decide (a < b))))) { s with heap := h', toks := tk }) :
    codeAny (model prog w) A (.call (.ref 226) ⟨[.ref x, .ref y], []⟩) R s := by
  have X₀ := c.X
  obtain ⟨_, _, _, _, _, T⟩ := c.T
  k_enter
  k_steps
  exact h _ _ (by assumption) (by assumption)

theorem tok_fn {name : Str} {f : Addr} (hC : IsC C) (h1 : findIn (hd.heap_39 w.params) (.ref 243) name = some (some (.ref f))) (h2 : findIn (hd.heap_39 w.params) (.ref 281) name = some (some (.ref f))) (h3 : findIn (hd.heap_39 w.params) (.ref 310) name = some (some (.ref f))) :
    findIn (hd.heap_39 w.params) (.ref C) name = some (some (.ref f)) := by
  rcases hC with rfl | rfl | rfl <;> assumption

def NotNI (v : Value) : Prop := v ≠ .notImplemented
/-- one side's own method is asked and answers a bool -/
theorem try_fn {name : Str} {f : Addr} {v : Bool} {Q : Value → Shared → Prop} (c : Cx k w A base h₀ env outer L m news s.heap) (tx : TokIn w.params news x C a)
    (hs : findIn (hd.heap_39 w.params) (.ref C) name = some (some (.ref f))) (hf : isFn (hd.heap_39 w.params) (.ref f) = true)
    (h : codeAny (model prog w) A (.call (.ref f) ⟨[.ref x, .ref y], []⟩) (fun r s' => r = .ok (.ret (.bool v)) ∧ Q (.bool v) s') s) :
    wpAny (model prog w) A (tryCompare (.ref x) name (.ref y)) (fun r s' => ∃ v, r = some v ∧ Q v s') E s := by
  obtain ⟨dx, ta, tb, I⟩ := tok_inst c.N tx
  unfold tryCompare
  refine wpAny_bind (ifBound_K c.hX I hs hf (wpAny_call (codeAny_mono h fun r s' hv => ?_)))
  obtain ⟨rfl, hq⟩ := hv
  exact wpAny_pure ⟨_, rfl, hq⟩

theorem ne_slot : Slot "object" "__ne__" "object.__ne__" :=
  Slot.of (owner := "object") (n := "__ne__") (by rw [typeLookup_type, builtinLookup_eq_fast]; kernel_rfl) (by decide +kernel) (by decide +kernel) (by decide +kernel) (.inl (by decide +kernel)) (by rw [isSubtype_type]; kernel_rfl)
theorem sub_object (hC : IsC C) : subIn (hd.heap_39 w.params) (.ref C) (.type "object") = some true := by
  rcases hC with rfl | rfl | rfl <;> k_is
theorem try_ne {Q : Value → Shared → Prop} (c : Cx (k + 3) w A base h₀ env outer L m news s.heap) (tx : TokIn w.params news x C a) (ty : TokIn w.params news y D b)
    (h : ∀ h' tk, Fr h₀ L h' m → News h₀ L h' news → Q (.bool (!(a == b))) { s with heap := h', toks := tk }) :
    wpAny (model prog w) A (tryCompare (.ref x) (Str.ofString "__ne__") (.ref y)) (fun r s' => ∃ v, r = some v ∧ Q v s') E s := by
  obtain ⟨dx, ta, tb, I⟩ := tok_inst c.N tx
  have X := c.hX
  have hs : findIn (hd.heap_39 w.params) (.ref C) (Str.ofString "__ne__") = some (some (.builtin "object.__ne__")) := by rcases tx.cls with rfl | rfl | rfl <;> k_is
  have he : findIn (hd.heap_39 w.params) (.ref C) (Str.ofString "__eq__") = some (some (.ref 219)) := by rcases tx.cls with rfl | rfl | rfl <;> k_is
  have hf : isFn (hd.heap_39 w.params) (.ref 219) = true := by k_is
  have hi : Looks (model prog w) s.heap (isInstance (.ref x) (.type "object")) true := I.type.andThen (looks_subIn X (sub_object tx.cls))
  have c1 := c.in1
  have hu : A.in1.units < cLine := c1.hu
  have body : wpAny (model prog w) A.in1 (Builtin.«object.__ne__» ⟨[.ref x, .ref y], []⟩) (fun fin s' => ∃ v, fin = .done (.ret v) ∧ (v = .bool (!(a == b)) ∧ Q v s')) E s := by
    unfold Builtin.«object.__ne__»
    repeat (first
      | with_reducible refine wpAny_cRoomFor hu ?_
      | (refine wpAny_bind (m := callSpecialIfBound? (.ref x) (Str.ofString "__eq__") [.ref y]) (ifBound_K X I he hf (wpAny_call (eq_code c1 tx ty fun h' tk F' N' => ?_))))
      | wp_step)

    exact ⟨_, rfl, rfl, h h' tk F' N'⟩
  unfold tryCompare
  refine wpAny_bind ?_
  simp only [callSpecialIfBound?, bindSpecialIfBound?]
  refine wpAny_holding (wpAny_bind (wpAny_bind (wpAny_bind (I.type.here ((looks_findIn X hs).here ?_)))))
  refine wpAny_bind (wpAny_askSetting (wpAny_ite ?_))
  have fin : wpAny (model prog w) A (call (.builtin "object.__ne__") ([.ref x] ++ [.ref y]) >>= fun v => pure (some v)) (fun r s' => wpAny (model prog w) A (match r with | some .notImplemented | none => pure none | some v => pure (some v)) (fun r s' => ∃ v, r = some v ∧ Q v s') E s') E s := by
    refine wpAny_bind (wpAny_call (codeAny_call_builtin ne_slot.plain F.cmpEntry_ne (check_slot F.cmpKind_ne F.cmpSplit_ne hi (F.cmpArgs_ne _ _) (wpAny_mono body (fun fin s' hv => ?_) fun _ _ e => e))))
    obtain ⟨v, rfl, rfl, hq⟩ := hv
    exact wpAny_pure (wpAny_pure ⟨_, rfl, hq⟩)
  split
  · refine wpAny_bind ?_
    rw [ne_slot.bind]
    exact wpAny_pure (wpAny_pure fin)
  · refine wpAny_tryCatch ?_
    refine wpAny_bind ?_
    rw [ne_slot.bind]
    exact wpAny_pure (wpAny_pure fin)
end
end Mine

end
section
open PySem PySem.W PyProof.Rows
namespace Mine
section
variable {prog : Program} {w : World} {A : Around} {s : Shared} {x y C D L : Addr} {h₀ base : Heap} {m : Str → Option Value} {news : List (Addr × Obj)} {a b : Int} {env : Env} {outer : List Env} {R : Result → Shared → Prop} {E : Value → Shared → Prop} {k : Nat}
set_option maxRecDepth 100000
set_option maxHeartbeats 4000000

theorem sub_tok (hC : IsC C) (hD : IsC D) : ∃ r, subIn (hd.heap_39 w.params) (.ref D) (.ref C) = some r := by
  rcases hC with rfl | rfl | rfl <;> rcases hD with rfl | rfl | rfl <;> exact ⟨_, by k_is⟩

theorem rich_tok {op : CmpOp} {Q : Value → Shared → Prop} (c : Cx k w A base h₀ env outer L m news s.heap) (tx : TokIn w.params news x C a) (ty : TokIn w.params news y D b)
    (h1 : wpAny (model prog w) A (tryCompare (.ref x) (cmpInfo op).2.1 (.ref y)) (fun r s' => ∃ v, r = some v ∧ Q v s') E s)
    (h2 : wpAny (model prog w) A (tryCompare (.ref y) (cmpInfo op).2.2 (.ref x)) (fun r s' => ∃ v, r = some v ∧ Q v s') E s) :
    wpAny (model prog w) A (richCompare op (.ref x) (.ref y)) Q E s := by
  obtain ⟨_, _, _, Ix⟩ := tok_inst c.N tx
  obtain ⟨_, _, _, Iy⟩ := tok_inst c.N ty
  have X := c.hX
  obtain ⟨r, hr⟩ := sub_tok (w := w) tx.cls ty.cls
  have L1 := looks_subIn (M := model prog w) X hr
  have fin1 : ∀ {q : Sem Value}, wpAny (model prog w) A (do
      if let some v ← tryCompare (.ref x) (cmpInfo op).2.1 (.ref y) then return v
      q) Q E s := fun {q} => wpAny_bind (wpAny_mono h1 (fun r s' z => by obtain ⟨v, rfl, hq⟩ := z; exact wpAny_pure hq) fun _ _ e => e)
  unfold richCompare
  simp only [oneThing_ref]
  refine wpAny_holding (wpAny_bind (wpAny_cRoomFor c.hu ?_))
  refine wpAny_bind (Ix.type.here (wpAny_bind (Iy.type.here ?_)))
  split
  · refine wpAny_bind (L1.here ?_)
    cases r with
    | true =>
      simp only [if_true]
      exact wpAny_bind (wpAny_mono h2 (fun r s' z => by obtain ⟨v, rfl, hq⟩ := z; exact wpAny_bind (wpAny_rule (wpAny_pure hq))) fun _ _ e => e)
    | false =>
      simp only [Bool.false_eq_true, if_false]
      exact fin1
  · refine wpAny_bind (wpAny_pure ?_)
    simp only [Bool.false_eq_true, if_false]
    exact fin1

theorem is_fn {f : Addr} (h : isFn (hd.heap_39 w.params) (.ref f) = true) : isFn (hd.heap_39 w.params) (.ref f) = true := h
theorem cmp_ne {Q : Value → Shared → Prop} (c : Cx (k + 3) w A base h₀ env outer L m news s.heap) (tx : TokIn w.params news x C a) (ty : TokIn w.params news y D b)
    (h : ∀ h' tk, Fr h₀ L h' m → News h₀ L h' news → Q (.bool (a != b)) { s with heap := h', toks := tk }) :
    wpAny (model prog w) A (compareOp .NotEq (.ref x) (.ref y)) Q E s :=
  cmp_ofNotEq (rich_tok c tx ty (try_ne c tx ty h) (try_ne c ty tx fun h' tk F N => by
    have e : (!(b == a)) = (a != b) := by rw [BEq.comm]; rfl
    rw [e]; exact h h' tk F N))
theorem cmp_eq {Q : Value → Shared → Prop} (c : Cx (k + 3) w A base h₀ env outer L m news s.heap) (tx : TokIn w.params news x C a) (ty : TokIn w.params news y D b)
    (h : ∀ h' tk, Fr h₀ L h' m → News h₀ L h' news → Q (.bool (a == b)) { s with heap := h', toks := tk }) :
    wpAny (model prog w) A (compareOp .Eq (.ref x) (.ref y)) Q E s :=
  cmp_ofEq (rich_tok c tx ty
    (try_fn c tx (tok_fn tx.cls (by k_is) (by k_is) (by k_is)) (by k_is) (eq_code c tx ty fun h' tk F N => ⟨rfl, h h' tk F N⟩))
    (try_fn c ty (tok_fn ty.cls (by k_is) (by k_is) (by k_is)) (by k_is) (eq_code c ty tx fun h' tk F N => ⟨rfl, by rw [show (b == a) = (a == b) from BEq.comm]; exact h h' tk F N⟩)))

theorem tok_type {Q : Value → Shared → Prop} (N : News h₀ L s.heap news) (tx : TokIn w.params news x C a) (h : Q (.ref C) s) : wpAny (model prog w) A (call (.type "type") [.ref x]) Q E s := by
  obtain ⟨_, _, _, I⟩ := tok_inst N tx
  exact kto_own I h
theorem tok_meth {Q : Value × List Value → Shared → Prop} {pl : Sem Bool} (F : Fr h₀ L s.heap m) (X₀ : (hd.heap_39 w.params).In h₀) (hC : IsC C) (h : Q (.ref 226, []) { s with toks := s.toks + 1 }) :
    wpAny (model prog w) A (getMethod (.ref C) (Str.ofString "__lt__") pl) Q E s := by
  rcases hC with rfl | rfl | rfl
  · refine' method_of_cls F X₀ ?k3 (cls_val F X₀ ?m1 ?m2 ?m3 ?m4 h); (case k3 => k_is); (case m1 => k_is); (case m2 => k_is); (case m3 => k_is); (case m4 => k_handed)
  · refine' method_of_cls F X₀ ?k3 (cls_val F X₀ ?m1 ?m2 ?m3 ?m4 h); (case k3 => k_is); (case m1 => k_is); (case m2 => k_is); (case m3 => k_is); (case m4 => k_handed)
  · refine' method_of_cls F X₀ ?k3 (cls_val F X₀ ?m1 ?m2 ?m3 ?m4 h); (case k3 => k_is); (case m1 => k_is); (case m2 => k_is); (case m3 => k_is); (case m4 => k_handed)
end
end Mine

end
section
open PySem PySem.W PyProof.Rows
namespace Mine
local macro_rules | `(tactic| k_enter) => `(tactic| (refine' code_cx (by assumption) ?k6 ?k7 ?k9 ?kB ?c2 ?c3 ?c4 ?c5 ?_; (case k6 => k_is); (case k7 => k_is); (case k9 => exact BindsTo.of_eq rfl); (case c5 => decide); (case kB => exact locs rfl); (case c2 => exact rfl); (case c3 => exact rfl); (case c4 => exact rfl); k_whole; intro g' L' h' p' l' n' mg' mb' FG' F' N' B' X' T' C'; (try dsimp only)))
local macro_rules | `(tactic| walk_at "call type:type") => `(tactic| (k_here; (with_reducible show wpAny _ _ (call (Value.type "type") [Value.ref _]) _ _ _); k_dflt (refine' tok_type ?k1 ?k2 ?_; (case k1 => k_asm); (case k2 => assumption))))
local macro_rules | `(tactic| walk_at "getMethod ref") => `(tactic| (k_here; (with_reducible show wpAny _ _ (getMethod (Value.ref _) (PySem.Str.ofString "__lt__") _) _ _ _); k_dflt (refine' tok_meth ?k1 ?k2 ?k3 ?_; (case k1 => k_asm); (case k2 => k_asm); (case k3 => exact TokIn.cls (by assumption)))))
local macro_rules | `(tactic| walk_at "call ref") => `(tactic| (k_here; (with_reducible show wpAny _ _ (call (Value.ref 226) [Value.ref _, Value.ref _]) _ _ _); k_dflt (refine' wpAny_call (lt_code (Cx.on (by assumption) ?k1 ?k2) ?k3 ?k4 ?_); (case k1 => k_asm); (case k2 => k_asm); (case k3 => assumption); (case k4 => assumption); intro h' tk' F' N'; (try dsimp only))))
local macro_rules | `(tactic| walk_at "compareOp NotEq ref ref") => `(tactic| (k_here; (with_reducible show wpAny _ _ (compareOp CmpOp.NotEq (Value.ref _) (Value.ref _)) _ _ _); k_dflt (refine' cmp_ne (Cx.on (by assumption) ?k1 ?k2) ?k3 ?k4 ?_; (case k1 => k_asm); (case k2 => k_asm); (case k3 => assumption); (case k4 => assumption); intro h' tk' F' N')))
local macro_rules | `(tactic| walk_at "compareOp Eq ref ref") => `(tactic| (k_here; (with_reducible show wpAny _ _ (compareOp CmpOp.Eq (Value.ref _) (Value.ref _)) _ _ _); k_dflt (refine' cmp_eq (Cx.on (by assumption) ?k1 ?k2) ?k3 ?k4 ?_; (case k1 => k_asm); (case k2 => k_asm); (case k3 => assumption); (case k4 => assumption); intro h' tk' F' N')))
local macro_rules | `(tactic| walk_at "compareOp Is") => `(tactic| (k_here; (with_reducible show wpAny _ _ (compareOp CmpOp.Is (Value.bool _) Value.notImplemented) _ _ _); refine wpAny_is_other (by rfl) (by intro x; cases x) ?_))
section
variable {prog : Program} {w : World} {A : Around} {s : Shared} {x y C D L : Addr} {h₀ base : Heap} {m : Str → Option Value} {news : List (Addr × Obj)} {a b : Int} {env : Env} {outer : List Env} {R : Result → Shared → Prop} {E : Value → Shared → Prop} {k : Nat}
set_option maxRecDepth 100000
set_option maxHeartbeats 4000000
theorem gt_code (c : Cx (k + 5) w A base h₀ env outer L m news s.heap) (tx : TokIn w.params news x C a) (ty : TokIn w.params news y D b)
    (h : ∀ v h' tk, v = decide (b < a) → Fr h₀ L h' m → News h₀ L h' news → R (.ok (.ret (.bool v))) { s with heap := h', toks := tk }) :
    codeAny (model prog w) A (.call (.ref 84) ⟨[.ref x, .ref y], []⟩) R s := by
  have X₀ := c.X
  obtain ⟨_, _, _, _, _, T⟩ := c.T
  k_enter
  k_steps
  all_goals exact h _ _ _ (by rw [Bool.eq_iff_iff]; simp; omega) (by assumption) (by assumption)
theorem le_code (c : Cx (k + 5) w A base h₀ env outer L m news s.heap) (tx : TokIn w.params news x C a) (ty : TokIn w.params news y D b)
    (h : ∀ v h' tk, v = decide (a ≤ b) → Fr h₀ L h' m → News h₀ L h' news → R (.ok (.ret (.bool v))) { s with heap := h', toks := tk }) :
    codeAny (model prog w) A (.call (.ref 91) ⟨[.ref x, .ref y], []⟩) R s := by
  have X₀ := c.X
  obtain ⟨_, _, _, _, _, T⟩ := c.T
  k_enter
  k_steps
  all_goals exact h _ _ _ (by rw [Bool.eq_iff_iff]; simp; omega) (by assumption) (by assumption)
theorem ge_code (c : Cx (k + 5) w A base h₀ env outer L m news s.heap) (tx : TokIn w.params news x C a) (ty : TokIn w.params news y D b)
    (h : ∀ v h' tk, v = decide (b ≤ a) → Fr h₀ L h' m → News h₀ L h' news → R (.ok (.ret (.bool v))) { s with heap := h', toks := tk }) :
    codeAny (model prog w) A (.call (.ref 98) ⟨[.ref x, .ref y], []⟩) R s := by
  have X₀ := c.X
  obtain ⟨_, _, _, _, _, T⟩ := c.T
  k_enter
  k_steps
  all_goals exact h _ _ _ (by rw [Bool.eq_iff_iff]; simp <;> omega) (by assumption) (by assumption)

theorem cmp_lt {Q : Value → Shared → Prop} (c : Cx (k + 5) w A base h₀ env outer L m news s.heap) (tx : TokIn w.params news x C a) (ty : TokIn w.params news y D b)
    (h : ∀ h' tk, Fr h₀ L h' m → News h₀ L h' news → Q (.bool (decide (a < b))) { s with heap := h', toks := tk }) :
    wpAny (model prog w) A (compareOp .Lt (.ref x) (.ref y)) Q E s :=
  cmp_ofLt (rich_tok c tx ty
    (try_fn c tx (tok_fn tx.cls (by k_is) (by k_is) (by k_is)) (by k_is) (lt_code (k := k + 4) c tx ty fun h' tk F N => ⟨rfl, h h' tk F N⟩))
    (try_fn c ty (tok_fn ty.cls (by k_is) (by k_is) (by k_is)) (by k_is) (gt_code c ty tx fun v h' tk e F N => by subst e; exact ⟨rfl, h h' tk F N⟩)))
theorem cmp_gt {Q : Value → Shared → Prop} (c : Cx (k + 5) w A base h₀ env outer L m news s.heap) (tx : TokIn w.params news x C a) (ty : TokIn w.params news y D b)
    (h : ∀ h' tk, Fr h₀ L h' m → News h₀ L h' news → Q (.bool (decide (b < a))) { s with heap := h', toks := tk }) :
    wpAny (model prog w) A (compareOp .Gt (.ref x) (.ref y)) Q E s :=
  cmp_ofGt (rich_tok c tx ty
    (try_fn c tx (tok_fn tx.cls (by k_is) (by k_is) (by k_is)) (by k_is) (gt_code c tx ty fun v h' tk e F N => by subst e; exact ⟨rfl, h h' tk F N⟩))
    (try_fn c ty (tok_fn ty.cls (by k_is) (by k_is) (by k_is)) (by k_is) (lt_code (k := k + 4) c ty tx fun h' tk F N => ⟨rfl, h h' tk F N⟩)))
theorem cmp_le {Q : Value → Shared → Prop} (c : Cx (k + 5) w A base h₀ env outer L m news s.heap) (tx : TokIn w.params news x C a) (ty : TokIn w.params news y D b)
    (h : ∀ h' tk, Fr h₀ L h' m → News h₀ L h' news → Q (.bool (decide (a ≤ b))) { s with heap := h', toks := tk }) :
    wpAny (model prog w) A (compareOp .LtE (.ref x) (.ref y)) Q E s :=
  cmp_ofLtE (rich_tok c tx ty
    (try_fn c tx (tok_fn tx.cls (by k_is) (by k_is) (by k_is)) (by k_is) (le_code c tx ty fun v h' tk e F N => by subst e; exact ⟨rfl, h h' tk F N⟩))
    (try_fn c ty (tok_fn ty.cls (by k_is) (by k_is) (by k_is)) (by k_is) (ge_code c ty tx fun v h' tk e F N => by subst e; exact ⟨rfl, h h' tk F N⟩)))
theorem cmp_ge {Q : Value → Shared → Prop} (c : Cx (k + 5) w A base h₀ env outer L m news s.heap) (tx : TokIn w.params news x C a) (ty : TokIn w.params news y D b)
    (h : ∀ h' tk, Fr h₀ L h' m → News h₀ L h' news → Q (.bool (decide (b ≤ a))) { s with heap := h', toks := tk }) :
    wpAny (model prog w) A (compareOp .GtE (.ref x) (.ref y)) Q E s :=
  cmp_ofGtE (rich_tok c tx ty
    (try_fn c tx (tok_fn tx.cls (by k_is) (by k_is) (by k_is)) (by k_is) (ge_code c tx ty fun v h' tk e F N => by subst e; exact ⟨rfl, h h' tk F N⟩))
    (try_fn c ty (tok_fn ty.cls (by k_is) (by k_is) (by k_is)) (by k_is) (le_code c ty tx fun v h' tk e F N => by subst e; exact ⟨rfl, h h' tk F N⟩)))
end
end Mine

end
section
open PySem PySem.W PyProof.Rows PySem.NumText
namespace Mine
/-- the numbers of the law: of 300 figures, or one more -/
structure Bd (n : Int) : Prop where
  out : n.natAbs ≤ 10 ^ 300

theorem bd_lt {n : Int} (h : Bd n) : n.natAbs < 10 ^ 301 := Nat.lt_of_le_of_lt h.out (by decide +kernel)
theorem bd_log {n : Int} (h : Bd n) : n.natAbs.log2 < 1920 := by
  have h1 : n.natAbs < 2 ^ 1920 := Nat.lt_of_le_of_lt h.out (by decide +kernel)
  by_cases h0 : n.natAbs = 0
  · rw [h0]; decide
  · exact (Nat.log2_lt h0).mpr h1
theorem bd_len {n : Int} (h : Bd n) : (PySem.Str.ofString (toString n)).length ≤ 302 := by
  rw [PySem.ofString_length]
  exact PySem.int_text_length_le10 (k := 301) (by decide) (bd_lt h)

theorem digits_all (m : Nat) : AllDigits ((Nat.toDigits 10 m).map Char.toNat) := by
  intro c hc
  obtain ⟨ch, hch, e⟩ := List.mem_map.mp hc
  have r := digit_range (Nat.isDigit_of_mem_toDigits (by decide) (by decide) hch)
  rw [← e]
  exact r
theorem digits_ne (m : Nat) : (Nat.toDigits 10 m).map Char.toNat ≠ [] := by
  intro e
  have h := toDigits_len_ge 10 m
  rw [List.map_eq_nil_iff.mp e] at h
  exact absurd h (by decide)
theorem signs_neg (m : Nat) : (PySem.Str.ofString (toString (Int.negSucc m))).cps.toList = 45 :: (Nat.toDigits 10 (m + 1)).map Char.toNat := by
  rw [signs_ofString]
  show ("-" ++ Nat.repr (m + 1)).toList.map Char.toNat = _
  rw [String.toList_append, List.map_append, Nat.toList_repr]
  rfl
theorem bd_read {n : Int} (h : Bd n) : PySem.intText? (PySem.Str.ofString (toString n)) = some n := by
  have hl := Nat.le_trans (bd_len h) (show 302 ≤ 4300 by decide)
  cases n with
  | ofNat m =>
    have e := intText_digits (x := PySem.Str.ofString (toString (Int.ofNat m))) (by rw [show (PySem.Str.ofString (toString (Int.ofNat m))).cps.toList = _ from KIN.signs_num m]; exact digits_all m)
      (by rw [show (PySem.Str.ofString (toString (Int.ofNat m))).cps.toList = _ from KIN.signs_num m]; exact digits_ne m) hl
    rw [show (PySem.Str.ofString (toString (Int.ofNat m))).cps.toList = _ from KIN.signs_num m, KIN.val_back] at e
    exact e
  | negSucc m =>
    have e := intText_neg (signs_neg m) (digits_all (m + 1)) (digits_ne (m + 1)) hl
    rw [KIN.val_back] at e
    rw [e, Int.negSucc_eq]
    rfl
end Mine

end
section
open PySem PySem.W PyProof.Rows
namespace Mine
theorem lt_of_allLt {d : Addr} {l : List (Addr × Obj)} (h : AllLt d l) : ∀ p ∈ l, p.1 < d := by
  induction l with
  | nil => intro p hp; cases hp
  | cons q r ih =>
    intro p hp
    rcases List.mem_cons.mp hp with e | hp
    · rw [e]; exact h.1
    · exact ih h.2 p hp
theorem news_drop1 {h₀ h : Heap} {L : Addr} {a b c : Addr × Obj} {l : List (Addr × Obj)} (N : News h₀ L h (a :: b :: c :: l)) : News h₀ L h (a :: b :: l) := fun p hp => N p (by
  rcases List.mem_cons.mp hp with e | hp
  · exact List.mem_cons.mpr (.inl e)
  · rcases List.mem_cons.mp hp with e | hp
    · exact List.mem_cons.mpr (.inr (List.mem_cons.mpr (.inl e)))
    · exact List.mem_cons.mpr (.inr (List.mem_cons.mpr (.inr (List.mem_cons.mpr (.inr hp))))))
theorem ne_of_allLt {d : Addr} {l : List (Addr × Obj)} (h : AllLt d l) : ∀ p ∈ l, p.1 ≠ d := fun p hp => Nat.ne_of_lt (lt_of_allLt h p hp)
theorem ne_of_lts {d : Addr} {l : List (Addr × Obj)} (h : ∀ p ∈ l, p.1 < d) : ∀ p ∈ l, p.1 ≠ d := fun p hp => Nat.ne_of_lt (h p hp)
def clsOf (r : Int) : Addr := if r = 0 ∨ r = 1 ∨ r = 2 then 310 else if r = 3 ∨ r = 4 then 281 else 243
local macro_rules | `(tactic| k_room) => `(tactic| ((try simp only [depth_under_make, depth_under_kw, depth_in1, depth_deeper]); (show _ < 1000); omega))
local macro_rules | `(tactic| k_all) => `(tactic| first | exact ne_of_lts (by assumption) | exact ne_of_allLt (by assumption) | exact ne_of_allLt (And.right (by assumption)) | exact ne_of_allLt (And.right (And.right (by assumption))))
local macro_rules | `(tactic| walk_at "call type:str") => `(tactic| (refine P.str_of_int (bd_log (by assumption)) ?_))
local macro_rules | `(tactic| walk_at "call type:int") => `(tactic| (refine KIN.call_text (bd_read (by assumption)) (Nat.le_trans (bd_len (by assumption)) (by decide)) ?_))
section
variable {prog : Program} {w : World} {A : Around} {s : Shared} {L : Addr} {h₀ base : Heap} {m : Str → Option Value} {news : List (Addr × Obj)} {n r : Int} {env : Env} {outer : List Env} {R : Result → Shared → Prop} {E : Value → Shared → Prop} {k : Nat} {tn tr : Tok}
theorem made_end {x dx C : Addr} {a b : Tok} {h' : Heap} {tk : Nat}
    (h : ∀ x dx C a b h' tk, C = clsOf r → Fr h₀ L h' m → News h₀ L h' ((x, instObj C dx) :: (dx, tokDict w.params n a b) :: news) → (∀ p ∈ news, p.1 < dx) → dx < x → R (.ok (.ret (.ref x))) { s with heap := h', toks := tk })
    (F : Fr h₀ L h' m) (N : News h₀ L h' ((x, instObj C dx) :: (dx, tokDict w.params n a b) :: news)) (l1 : ∀ p ∈ news, p.1 < dx) (l2 : dx < x) (e : C = clsOf r) : R (.ok (.ret (.ref x))) { s with heap := h', toks := tk } := h _ _ _ _ _ _ _ e F N l1 l2
set_option maxRecDepth 100000
set_option maxHeartbeats 4000000
theorem made_code (c : Cx (k + 9) w A base h₀ env outer L m news s.heap) (hb : Bd n)
    (h : ∀ x dx C a b h' tk, C = clsOf r → Fr h₀ L h' m → News h₀ L h' ((x, instObj C dx) :: (dx, tokDict w.params n a b) :: news) → (∀ p ∈ news, p.1 < dx) → dx < x → R (.ok (.ret (.ref x))) { s with heap := h', toks := tk }) :
    codeAny (model prog w) A (.call (.ref 320) ⟨[.int n tn, .int r tr], []⟩) R s := by
  have X₀ := c.X
  obtain ⟨_, _, _, _, _, T⟩ := c.T
  obtain ⟨A₀, B⟩ := c.B
  have F := c.F
  have N := c.N
  obtain ⟨hnd, d, fr, gs, u⟩ := A
  have hA : fr = some (env :: outer) := c.hA
  subst hA
  have hroom : d + (k + 9) ≤ 900 := c.room
  refine' code_def B F X₀ N T c.hA c.hf c.hk ?k6 ?k7 ?k8 ?k9 ?kB ?_ ?c2 ?c3 ?c4 ?c5
  case k6 => k_is
  case k7 => k_is
  case k8 => k_room
  case k9 => exact BindsTo.of_eq rfl
  case c5 => decide
  case kB => exact locs rfl
  case c2 => exact rfl
  case c3 => exact rfl
  case c4 => exact rfl
  intro g' L' h' FG' F' N' B' X' T'
  clear c F N
  k_steps
  all_goals (apply made_end h; assumption; (first | assumption | exact news_drop1 (by assumption) | exact news_drop1 (news_drop1 (by assumption))); (first | assumption | exact lt_of_allLt (by assumption) | exact lt_of_allLt (And.right (by assumption)) | exact lt_of_allLt (And.right (And.right (by assumption)))); assumption; (unfold clsOf; first | (rw [if_pos (by omega)]; done) | (rw [if_neg (by omega), if_pos (by omega)]; done) | (rw [if_neg (by omega), if_neg (by omega)]; done)))
end
end Mine

end
section
open PySem PySem.W PyProof.Rows
namespace Mine
section
variable {prog : Program} {w : World} {A : Around} {s : Shared} {x C L : Addr} {h₀ base : Heap} {m : Str → Option Value} {news : List (Addr × Obj)} {n r : Int} {env : Env} {outer : List Env} {R : Result → Shared → Prop} {E : Value → Shared → Prop} {k : Nat} {K : Frag}
/-- the name that a class bears -/
theorem name_get {tp : Value} {o : Obj} {q : PySem.Str} {tk : Tok} (X : K.In s.heap) (ho : K.lookup C = some o) (hv : o.slots[2]?.join = some (.str q tk)) (ht : typeIn K (.ref C) = some (.type "type"))
    (h : R (.ok (.ret (.str q tk))) s) :
    codeAny (model prog w) A (.call (.builtin "getset_descriptor.__get__") ⟨[.builtin "type.__name__", .ref C, tp], []⟩) R s := by
  obtain ⟨hh, g, dr, t, os⟩ := s
  have L0 := looks_typeIn (M := model prog w) X ht
  have L1 : Looks (model prog w) hh (isSubtype (.type "type") (.type "type")) true := Looks.of_pure (by rw [isSubtype_type]; kernel_rfl)
  refine codeAny_call_builtin KF.slot_gs.plain KF.entry_gs (KF.slot_gs.check _ _ _ _ _ _ _ _ ktyn_type (KF.args_gs _ _ _) ?_)
  unfold Builtin.«getset_descriptor.__get__» Builtin.Getset_descriptor.descrGet
  rw [dga_obj]
  refine wpAny_bind (wpAny_pure ?_)
  unfold Builtin.Getset_descriptor.descrGetter Builtin.Getset_descriptor.descrCheckInstance Builtin.Getset_descriptor.descrNameAndClass isInstance
  simp only [ktyn_owner]
  repeat lk
  refine ⟨Code.quiet_builtin _ (by decide +kernel), codeAny_builtin ktyn_entry ?_⟩
  unfold Builtin.«type.__name__» Builtin.keptObject
  dsimp only
  unfold slotAt
  refine wpAny_bind (wpAny_bind (wpAny_loadPart (X _ _ ho) (wpAny_pure ?_)))
  rw [hv]
  exact wpAny_pure h
def titleOf (C : Addr) : PySem.Str := if C = 310 then Str.ofString "Murmur3Token" else if C = 281 then Str.ofString "HashToken" else Str.ofString "Token"
theorem cls_name {expr : Bool} {o : Obj} {q : PySem.Str} {tk : Tok} {Q : Value → Shared → Prop} (F : Fr h₀ L s.heap m) (X₀ : K.In h₀) (hr : readsIn K C (.type "type") = true)
    (e : findCls K (.ref C) (.type "type") "__name__" = some (.get (.builtin "getset_descriptor.__get__") (.builtin "type.__name__") (.ref C) (.type "type")))
    (ho : K.lookup C = some o) (hv : o.slots[2]?.join = some (.str q tk)) (ht : typeIn K (.ref C) = some (.type "type")) (h : Q (.str q tk) { s with toks := s.toks + 1 }) :
    wpAny (model prog w) A (getAttr (.ref C) (Str.ofString "__name__") expr) Q E s :=
  cls_bind (X₀.keeps F.keep) hr e (wpAny_call (name_get (s := { s with toks := s.toks + 1 }) (X₀.keeps F.keep) ho hv ht (handed_on rfl h)))
set_option maxRecDepth 100000
theorem tok_name {expr : Bool} {Q : Value → Shared → Prop} (F : Fr h₀ L s.heap m) (X₀ : (hd.heap_39 w.params).In h₀) (hC : IsC C) (h : ∀ tk, Q (.str (titleOf C) tk) { s with toks := s.toks + 1 }) :
    wpAny (model prog w) A (getAttr (.ref C) (Str.ofString "__name__") expr) Q E s := by
  rcases hC with rfl | rfl | rfl
  · refine' cls_name F X₀ ?a ?b ?c ?d ?e (h _); (case a => k_is); (case b => k_is); (case c => k_is); (case d => rfl); (case e => k_is)
  · refine' cls_name F X₀ ?a ?b ?c ?d ?e (h _); (case a => k_is); (case b => k_is); (case c => k_is); (case d => rfl); (case e => k_is)
  · refine' cls_name F X₀ ?a ?b ?c ?d ?e (h _); (case a => k_is); (case b => k_is); (case c => k_is); (case d => rfl); (case e => k_is)
theorem tok_class {expr : Bool} {Q : Value → Shared → Prop} (F : Fr h₀ L s.heap m) (X₀ : (hd.heap_39 w.params).In h₀) (N : News h₀ L s.heap news) (tx : TokIn w.params news x C n) (h : Q (.ref C) { s with toks := s.toks + 1 }) :
    wpAny (model prog w) A (getAttr (.ref x) (Str.ofString "__class__") expr) Q E s := by
  obtain ⟨_, _, _, I⟩ := tok_inst N tx
  rcases tx.cls with rfl | rfl | rfl
  · refine' get_class F X₀ I ?k4 ?k5 ?k6 ?k7 ?k8 ?k9 h; (case k4 => k_is); (case k5 => k_is); (case k6 => k_is); (case k7 => k_is); (case k8 => k_is); (case k9 => k_is)
  · refine' get_class F X₀ I ?k4 ?k5 ?k6 ?k7 ?k8 ?k9 h; (case k4 => k_is); (case k5 => k_is); (case k6 => k_is); (case k7 => k_is); (case k8 => k_is); (case k9 => k_is)
  · refine' get_class F X₀ I ?k4 ?k5 ?k6 ?k7 ?k8 ?k9 h; (case k4 => k_is); (case k5 => k_is); (case k6 => k_is); (case k7 => k_is); (case k8 => k_is); (case k9 => k_is)
end
section
variable {C : Addr}
theorem title_len : (titleOf C).length ≤ 12 := by
  unfold titleOf
  split
  · decide
  · split <;> decide
theorem len_lt : (Str.ofString "<").length = 1 := by decide
theorem len_co : (Str.ofString ": ").length = 2 := by decide
theorem len_gt : (Str.ofString ">").length = 1 := by decide
theorem len_em : (PySem.Str.empty).length = 0 := by decide
def shown (C : Addr) (n : Int) : PySem.Str := Str.ofString "<" ++ titleOf C ++ Str.ofString ": " ++ Str.ofString (toString n) ++ Str.ofString ">"
theorem title_of {P : Params} {news : List (Addr × Obj)} {x : Addr} {n : Int} (_ : TokIn P news x C n) : (titleOf C).length ≤ 12 := title_len
theorem fits_of {z : PySem.Str} (h : z.length ≤ 1000) : z.length ≤ sizeLine := by rw [sizeLine_eq]; omega
end
local macro_rules | `(tactic| size_fits) => `(tactic| (refine fits_of ?_; (try simp only [PySem.Str.length_append, len_lt, len_co, len_gt, len_em]); (have hq1 := title_of (by assumption)); (have hq2 := bd_len (by assumption)); omega))
local macro_rules | `(tactic| walk_at "convS int") => `(tactic| (refine SB.convS_int (bd_log (by assumption)) ?_))
local macro_rules | `(tactic| k_room) => `(tactic| ((try simp only [depth_under_make, depth_under_kw, depth_in1, depth_deeper]); (show _ < 1000); omega))
local macro_rules | `(tactic| k_units) => `(tactic| ((try simp only [units_in1, units_deeper]); (show _ < 9900); omega))
local macro_rules | `(tactic| walk_at "call type:str") => `(tactic| (refine P.str_of_int (bd_log (by assumption)) ?_))
local macro_rules | `(tactic| walk_at "getAttr ref") => `(tactic| (k_here; (with_reducible show wpAny _ _ (getAttr (Value.ref _) (PySem.Str.ofString "value") _) _ _ _); k_dflt (refine' tok_value ?k1 ?k2 ?k3 ?k4 ?_; (case k1 => k_asm); (case k2 => k_asm); (case k3 => k_asm); (case k4 => assumption)); intro u'))
local macro_rules | `(tactic| walk_at "getAttr ref") => `(tactic| (k_here; (with_reducible show wpAny _ _ (getAttr (Value.ref _) (PySem.Str.ofString "__class__") _) _ _ _); k_dflt (refine' tok_class ?k1 ?k2 ?k3 ?k4 ?_; (case k1 => k_asm); (case k2 => k_asm); (case k3 => k_asm); (case k4 => assumption))))
local macro_rules | `(tactic| walk_at "getAttr ref") => `(tactic| (k_here; (with_reducible show wpAny _ _ (getAttr (Value.ref _) (PySem.Str.ofString "__name__") _) _ _ _); k_dflt (refine' tok_name ?k1 ?k2 ?k3 ?_; (case k1 => k_asm); (case k2 => k_asm); (case k3 => exact TokIn.cls (by assumption))); intro t'))
local macro_rules | `(tactic| k_enter) => `(tactic| (refine' code_cx (by assumption) ?k6 ?k7 ?k9 ?kB ?c2 ?c3 ?c4 ?c5 ?_; (case k6 => k_is); (case k7 => k_is); (case k9 => exact BindsTo.of_eq rfl); (case c5 => decide); (case kB => exact locs rfl); (case c2 => exact rfl); (case c3 => exact rfl); (case c4 => exact rfl); k_whole; intro g' L' h' p' l' n' mg' mb' FG' F' N' B' X' T' C'; (try dsimp only)))
section
variable {prog : Program} {w : World} {A : Around} {s : Shared} {x C L : Addr} {h₀ base : Heap} {m : Str → Option Value} {news : List (Addr × Obj)} {n r : Int} {env : Env} {outer : List Env} {R : Result → Shared → Prop} {E : Value → Shared → Prop} {k : Nat}
set_option maxRecDepth 100000
set_option maxHeartbeats 4000000
theorem repr_code (c : Cx (k + 9) w A base h₀ env outer L m news s.heap) (hb : Bd n) (tx : TokIn w.params news x C n)
    (h : ∀ t h' tk, Fr h₀ L h' m → News h₀ L h' news → R (.ok (.ret (.str (shown C n) t))) { s with heap := h', toks := tk }) :
    codeAny (model prog w) A (.call (.ref 240) ⟨[.ref x], []⟩) R s := by
  have X₀ := c.X
  obtain ⟨_, _, _, _, _, T⟩ := c.T
  k_enter
  k_steps
  rw [PySem.Str.empty_append]
  exact h _ _ _ (by assumption) (by assumption)
theorem repr_tok {Q : Value → Shared → Prop} (c : Cx (k + 10) w A base h₀ env outer L m news s.heap) (hb : Bd n) (tx : TokIn w.params news x C n)
    (h : ∀ t h' tk, Fr h₀ L h' m → News h₀ L h' news → Q (.str (shown C n) t) { s with heap := h', toks := tk }) :
    wpAny (model prog w) A (call (.builtin "repr") [.ref x]) Q E s := by
  obtain ⟨_, _, _, I⟩ := tok_inst c.N tx
  exact repr_K (by have := c.units; show A.units + 1 < 9900; omega) c.F c.X I (tok_fn tx.cls (by k_is) (by k_is) (by k_is)) (by k_is) (wpAny_call (repr_code (k := k) c.in1 hb tx fun t h' tk F N => h t h' tk F N))
end
end Mine

end
section
open PySem PySem.W PyProof.Rows
namespace Mine
@[irreducible] def P300 : Int := 10 ^ 300
theorem p300_eq : P300 = 10 ^ 300 := by unfold P300; rfl
theorem p300_nat : P300.natAbs = 10 ^ 300 := by rw [p300_eq]; rfl
theorem p300_pos : 0 < P300 := by rw [p300_eq]; exact Int.pow_pos (by decide)
theorem p300_ne : P300 ≠ 0 := Int.ne_of_gt p300_pos
def norm (n : Int) : Int := if -P300 < n ∧ n < P300 then n else n.fmod P300
theorem norm_in {n : Int} (h1 : -P300 < n) (h2 : n < P300) : norm n = n := if_pos ⟨h1, h2⟩
theorem norm_hi {n : Int} (h2 : ¬ n < P300) : norm n = n.fmod P300 := if_neg fun h => h2 h.2
theorem norm_lo {n : Int} (h1 : ¬ -P300 < n) : norm n = n.fmod P300 := if_neg fun h => h1 h.1
theorem norm_bd (n : Int) : -P300 < norm n ∧ norm n < P300 := by
  unfold norm
  split
  · assumption
  · have h1 := Int.fmod_nonneg_of_pos n p300_pos
    have h2 := Int.fmod_lt_of_pos n p300_pos
    have h3 := p300_pos
    omega
theorem bd_norm (n : Int) : Bd (norm n) := ⟨by have h := norm_bd n; have e := p300_nat; omega⟩
theorem bd_norm_one (n : Int) : Bd (norm n + 1) := ⟨by have h := norm_bd n; have e := p300_nat; omega⟩
section
variable {prog : Program} {w : World} {A : Around} {E : Value → Shared → Prop} {s : Shared} {t u : Tok}
theorem pow300 {Q : Value → Shared → Prop} (h : ∀ v, Q (.int P300 v) { s with toks := s.toks + 1 }) : wpAny (model prog w) A (binaryOp .Pow (.int 10 t) (.int 300 u)) Q E s := by
  refine pow_int (by decide) (by decide +kernel) ?_
  have e : ((10 : Int) ^ (300 : Int).toNat) = P300 := by rw [p300_eq]; rfl
  rw [e]
  exact h _
theorem mod300 {n : Int} {Q : Value → Shared → Prop} (h : ∀ v, Q (.int (n.fmod P300) v) { s with toks := s.toks + 1 }) : wpAny (model prog w) A (binaryOp .Mod (.int n t) (.int P300 u)) Q E s :=
  mod_int' p300_ne (h _)
end
end Mine

end
section
open PySem PySem.W PyProof.Rows
namespace Mine
/-- a list of tokens, their classes and numbers told -/
def Toks (P : Params) (news : List (Addr × Obj)) (ys : List Value) (n : Nat) (cls : Nat → Addr) (val : Nat → Int) : Prop :=
  ys.length = n ∧ ∀ j, j < n → ∃ x, ys[j]? = some (.ref x) ∧ TokIn P news x (cls j) (val j)
theorem Toks.mono {P : Params} {news news' : List (Addr × Obj)} {ys : List Value} {n : Nat} {cls : Nat → Addr} {val : Nat → Int} (h : Toks P news ys n cls val) (hs : ∀ p ∈ news, p ∈ news') : Toks P news' ys n cls val :=
  ⟨h.1, fun j hj => let ⟨x, e, t⟩ := h.2 j hj; ⟨x, e, t.mono hs⟩⟩
theorem Toks.snoc {P : Params} {news : List (Addr × Obj)} {ys : List Value} {n : Nat} {x : Addr} {cls : Nat → Addr} {val : Nat → Int} (h : Toks P news ys n cls val) (t : TokIn P news x (cls n) (val n)) : Toks P news (ys ++ [.ref x]) (n + 1) cls val := by
  refine ⟨by rw [List.length_append, h.1]; rfl, fun j hj => ?_⟩
  by_cases e : j = n
  · subst e
    exact ⟨x, by rw [List.getElem?_append_right (by rw [h.1]; exact Nat.le_refl _), h.1, Nat.sub_self]; rfl, t⟩
  · obtain ⟨y, ey, ty⟩ := h.2 j (by omega)
    exact ⟨y, by rw [List.getElem?_append_left (by rw [h.1]; omega)]; exact ey, ty⟩

section
variable {prog : Program} {w : World} {A : Around} {h₀ : Heap} {L : Addr} {m : Str → Option Value} {env : Env} {elt : PySem.Expr} {x : Str} {scope : Scope} {cl : List (Str × Addr)} {s : Shared} {Fin : List Value → List (Addr × Obj) → Prop} {news : List (Addr × Obj)} {cls : Nat → Addr} {val : Nat → Int} {P : Params}
def TokEl (P : Params) (news : List (Addr × Obj)) (C : Addr) (n : Int) (y : Value) (news' : List (Addr × Obj)) : Prop := ∃ x, y = .ref x ∧ TokIn P news' x C n ∧ ∀ p ∈ news, p ∈ news'
theorem tok_rest
    (turn : ∀ (i : Nat) (t : Tok) I oI C oC D m₂ ys news' h tk (E' : Value → Shared → Prop), i < 7 → LCg.NsObj oC m₂ → m₂ x = some (.int (0 + (i : Int)) t) → Fr h₀ L h m → News h₀ L h ((I, oI) :: (C, oC) :: (D, LCg.lst ys) :: news') → LCg.Off3 I C D news' → ((@Ne Nat I C) ∧ (@Ne Nat I D) ∧ (@Ne Nat C D)) → (∀ p ∈ news, p ∈ news') →
      wpAny (model prog w) A (eval elt (compEnvC scope cl C env)) (LCg.CompEnd h₀ L m { s with heap := h, toks := tk } I oI C oC D (LCg.lst ys) (fun _ => True) (TokEl w.params news' (cls i) (val i))) E' { s with heap := h, toks := tk })
    (fin : ∀ ys news', (∀ p ∈ news, p ∈ news') → Toks w.params news' ys 7 cls val → Fin ys news') :
    LCg.CompRest prog w A h₀ L m env elt x scope cl s (fun _ => True) (fun i v => ∃ t, v = .int (0 + (i : Int)) t) Fin 7 0 [] news := by
  have key : ∀ (j i : Nat) (ys : List Value) (news' : List (Addr × Obj)), i + j = 7 → (∀ p ∈ news, p ∈ news') → Toks w.params news' ys i cls val →
      LCg.CompRest prog w A h₀ L m env elt x scope cl s (fun _ => True) (fun i v => ∃ t, v = .int (0 + (i : Int)) t) Fin j i ys news' := by
    intro j
    induction j with
    | zero =>
      intro i ys news' hi hs ht
      have e : i = 7 := by omega
      subst e
      exact LCg.CompRest.zero (fin ys news' hs ht)
    | succ j ih =>
      intro i ys news' hi hs ht
      refine LCg.CompRest.succ ?_
      intro v I oI C oC D m₂ h tk E' hv hC hx F N off ne
      obtain ⟨t, rfl⟩ := hv
      refine wpAny_mono (turn i t I oI C oC D m₂ ys news' h tk E' (by omega) hC hx F N off ne hs) (fun y s₂ hq => ?_) fun _ _ e => e
      obtain ⟨h', tk', nw, e, F', N', off', hS, y', rfl, hy, hsub⟩ := hq
      exact ⟨h', tk', nw, e, F', N', off', hS, ih (i + 1) _ nw (by omega) (fun p hp => hsub p (hs p hp)) ((ht.mono hsub).snoc hy)⟩
  exact key 7 0 [] news rfl (fun _ h => h) ⟨rfl, fun j hj => absurd hj (Nat.not_lt_zero j)⟩

theorem off_lt {I C D d : Addr} (h : I < d) (h2 : C < d) (h3 : D < d) : (@Ne Nat d I) ∧ (@Ne Nat d C) ∧ (@Ne Nat d D) := ⟨Nat.ne_of_gt h, Nat.ne_of_gt h2, Nat.ne_of_gt h3⟩
/-- the end of a turn that has made a token -/
theorem tok_end {I C D X dx : Addr} {oI oC oD : Obj} {K : Addr} {n : Int} {a b : Tok} {h' : Heap} {tk : Nat} {w' : World}
    (F : Fr h₀ L h' m) (N : News h₀ L h' ((X, instObj K dx) :: (dx, tokDict w'.params n a b) :: (I, oI) :: (C, oC) :: (D, oD) :: news)) (hK : IsC K)
    (l1 : ∀ p ∈ (I, oI) :: (C, oC) :: (D, oD) :: news, p.1 < dx) (l2 : dx < X) (off : LCg.Off3 I C D news) {s : Shared} :
    LCg.CompEnd h₀ L m s I oI C oC D oD (fun _ => True) (TokEl w'.params news K n) (.ref X) { s with heap := h', toks := tk } := by
  have hI := l1 (I, oI) (.head _)
  have hC := l1 (C, oC) (.tail _ (.head _))
  have hD := l1 (D, oD) (.tail _ (.tail _ (.head _)))
  refine LCg.CompEnd.intro F N ((X, instObj K dx) :: (dx, tokDict w'.params n a b) :: news) (fun p hp => ?_)
    ⟨off_lt (Nat.lt_trans hI l2) (Nat.lt_trans hC l2) (Nat.lt_trans hD l2), off_lt hI hC hD, off⟩ trivial ⟨X, rfl, ⟨hK, dx, a, b, .head _, .tail _ (.head _)⟩, fun p hp => .tail _ (.tail _ hp)⟩
  simp only [List.mem_cons] at hp ⊢
  rcases hp with h | h | h | h | h | h <;> simp [h]
theorem news_front {h : Heap} {a b c : Addr × Obj} {news' : List (Addr × Obj)} (N : News h₀ L h (a :: b :: c :: news')) (hs : ∀ p ∈ news, p ∈ news') : News h₀ L h (a :: b :: c :: news) := fun p hp => N p (by
  simp only [List.mem_cons] at hp ⊢
  rcases hp with h | h | h | h
  · exact .inl h
  · exact .inr (.inl h)
  · exact .inr (.inr (.inl h))
  · exact .inr (.inr (.inr (hs p h))))
theorem news_join {h : Heap} {a : Addr × Obj} {ex news' : List (Addr × Obj)} (N : News h₀ L h (a :: news')) (hs : ∀ p ∈ ex, p ∈ news') : News h₀ L h (a :: (ex ++ news')) := fun p hp => N p (by
  simp only [List.mem_cons, List.mem_append] at hp ⊢
  rcases hp with h | h | h
  · exact .inl h
  · exact .inr (hs p h)
  · exact .inr h)
theorem cls_ok (r : Int) : IsC (clsOf r) := by
  unfold clsOf IsC
  split
  · exact .inr (.inr rfl)
  · split
    · exact .inr (.inl rfl)
    · exact .inl rfl
end
end Mine

end
section
open PySem PySem.W PyProof.Rows
namespace Mine
theorem nums_pack {ys : List Value} {X : List Int} (hI : IntsAre ys (List.map norm X)) (hl : X.length = 12) : ∃ ns, IntsAre ys ns ∧ ns.length = 12 ∧ ∀ n ∈ ns, Bd n :=
  ⟨_, hI, by rw [List.length_map, hl], fun n hn => by obtain ⟨a, _, rfl⟩ := List.mem_map.mp hn; exact bd_norm a⟩
theorem list12 {X : List Int} (h : X.length = 12) : ∃ a b c d e f g i j k l m, X = [a, b, c, d, e, f, g, i, j, k, l, m] := by
  match X, h with
  | [a, b, c, d, e, f, g, i, j, k, l, m], _ => exact ⟨a, b, c, d, e, f, g, i, j, k, l, m, rfl⟩
theorem row_pack {ws : List Value} {X : List Int} (hI : IntsAre ws (List.take 5 (List.map norm X) ++ [(List.map norm X).getD (Int.toNat 0) 0, (List.map norm X).getD (Int.toNat 1) 0 + 1])) (hl : X.length = 12) :
    ∃ row, IntsAre ws row ∧ row.length = 7 ∧ ∀ n ∈ row, Bd n := by
  obtain ⟨a, b, c, d, e, f, g, i, j, k, l, m, rfl⟩ := list12 hl
  refine ⟨[norm a, norm b, norm c, norm d, norm e, norm a, norm b + 1], hI, rfl, fun n hn => ?_⟩
  simp only [List.mem_cons, List.not_mem_nil, or_false] at hn
  rcases hn with rfl | rfl | rfl | rfl | rfl | rfl | rfl
  · exact bd_norm a
  · exact bd_norm b
  · exact bd_norm c
  · exact bd_norm d
  · exact bd_norm e
  · exact bd_norm a
  · exact bd_norm_one b
theorem roads_pack {ys : List Value} {f : Int → Int} (hI : IntsAre ys (List.map (fun k' => (f k').fmod 7) (rangeKs 0 (7 - 0 : Int).toNat))) :
    ∃ rd, IntsAre ys rd ∧ rd.length = 7 ∧ ∀ r ∈ rd, 0 ≤ r ∧ r ≤ 6 :=
  ⟨_, hI, by rw [List.length_map, rangeKs_length]; rfl, fun r hr => by
    obtain ⟨k, _, rfl⟩ := List.mem_map.mp hr
    have h1 := Int.fmod_nonneg_of_pos (f k) (show (0 : Int) < 7 by decide)
    have h2 := Int.fmod_lt_of_pos (f k) (show (0 : Int) < 7 by decide)
    omega⟩
theorem bd_zero : Bd 0 := ⟨Nat.zero_le _⟩
theorem getD_mem {l : List Int} {i : Nat} (hi : i < l.length) : l.getD i 0 ∈ l := by
  have e : l.getD i 0 = l[i] := by simp [List.getD, hi]
  rw [e]; exact List.getElem_mem hi
theorem getD_out {l : List Int} {i : Nat} (hi : ¬ i < l.length) : l.getD i 0 = 0 := by
  simp [List.getD, Nat.le_of_not_lt hi]
theorem bd_get {l : List Int} (h : ∀ n ∈ l, Bd n) (i : Nat) : Bd (l.getD i 0) := by
  by_cases hi : i < l.length
  · exact h _ (getD_mem hi)
  · rw [getD_out hi]; exact bd_zero
theorem rd_get {l : List Int} (h : ∀ n ∈ l, 0 ≤ n ∧ n ≤ 6) (i : Nat) : 0 ≤ l.getD i 0 ∧ l.getD i 0 ≤ 6 := by
  by_cases hi : i < l.length
  · exact h _ (getD_mem hi)
  · rw [getD_out hi]; exact ⟨by decide, by decide⟩
end Mine

end
section
open PySem PySem.W PySem.Calls PyProof.Rows
namespace Mine
section
variable {prog : Program} {w : World} {A : Around} {R : Result → Shared → Prop} {s : Shared}
theorem codeC_func {body : List Stmt} {env : Env}
    (h : wpC (model prog w) (A.deeper env) (execs body env) (fun f s' => R (.ok (.ret (match f with | .ret v => v | _ => .none))) s')
      (fun e s' => wpC (model prog w) (A.deeper env) (leaving env e) (fun _ s'' => R (.error e) s'') (fun e' s'' => R (.error e') s'') s') s) :
    codeC (model prog w) A (.func body env) R s := by
  refine codeC_of_tree ?_
  show wpC _ (A.deeper env) (do point; match ← (execs body env).onRaise (leaving env) with | .ret v => ret v | _ => ret .none) _ _ s
  refine wpC_then (wpAny_point (wpC_bind (wpC_onRaise (wpC_mono h (fun f s' h' => ?_) fun _ _ h' => h'))))
  cases f <;> exact wpC_pure h'

theorem codeC_call_function {a : Addr} {args : Args} {o : Obj} {fd : FuncData} {body : List Stmt} (hroom : A.depth < recursionLimit)
    (ho : s.heap.get? a = some o) (hd' : o.data = .func fd) (hco : fd.scope.isCoroutine = false) (hgen : fd.scope.isGenerator = false) (hbody : fd.body = .stmts body) (hcd : s.heap.CodeRec fd.code fd.qualname)
    (h : wpAny (model prog w) A.in1 (bindArgs fd args) (fun binds s₁ =>
      wpAny (model prog w) A.in1 (newFunctionEnv fd.scope fd.globals fd.closure binds (fd.qualname ++ ".<locals>.") (some a) fd.code none fd.builtins)
        (fun env s₂ => s₂.heap.NoLimit ∧ codeC (model prog w) A (.func body env) R s₂) (fun e s' => R (.error e) s') s₁) (fun e s' => R (.error e) s') s) :
    codeC (model prog w) A (.call (.ref a) args) R s := by
  refine codeC_of_tree ?_
  show wpC _ A.in1 (callAny (.ref a) args) _ _ s
  simp only [callAny]
  refine wpC_then (wpAny_load ho ?_)
  obtain ⟨c, oc, vs, tq, hc, hoc, hdc, hq⟩ := hcd
  simp only [hd', callFunction, hco, hgen, hbody, hc]
  rw [hc] at h
  refine wpC_then (m := field (.ref c) 1) (wpAny_field hoc hdc hq (wpC_then (wpAny_pure ?_)))
  exact wpC_then (wpAny_mono h (fun binds s₁ h₁ => wpC_then (wpAny_mono h₁ (fun env s₂ h₂ => wpC_then (wpAny_enterFrame h₂.1 hroom
    (wpC_pure (And.intro rfl h₂.2)))) fun _ _ h' => h')) fun _ _ h' => h')

/-- a def with cells is called, and does not raise -/
theorem callC_cells {name : Str} {params : Arguments} {body : List Stmt} {scope : Scope} {pm cd doc : Value} {a : Addr} {o : Obj} {args : List Value} {binds : List (Str × Value)}
    (hroom : A.depth < recursionLimit) (ho : s.heap.get? a = some o) (hdata : o.data = .func (Calls.docDef name params body scope pm cd doc)) (hlim : s.heap.NoLimit) (hcd : s.heap.CodeRec cd name)
    (hbind : bindArgs (Calls.docDef name params body scope pm cd doc) ⟨args, []⟩ = pure binds)
    (hkind : ∀ x ∈ binds, scope.names.lookup x.1 = some .local ∨ (scope.names.lookup x.1 = some .cell ∧ ((cellsFrom (s.heap.objs.size + 1) scope.names []).lookup x.1).isSome = true))
    (hnd : ((cellsFrom 0 scope.names []).map (·.1)).Nodup)
    (h : ∀ h₁ tk cells, Fr s.heap s.heap.objs.size h₁ (bindL (envOfC name scope s.heap.objs.size a cd).kindOf binds fun _ => none) → News s.heap s.heap.objs.size h₁ cells →
      CellsAre (bindC (envOfC name scope s.heap.objs.size a cd).kindOf binds fun _ => none) (cellsFrom (s.heap.objs.size + 1) scope.names []) cells →
      wpC (model prog w) (A.deeper (envOfC name scope s.heap.objs.size a cd)) (execs body (envOfC name scope s.heap.objs.size a cd))
        (fun f s' => R (.ok (.ret (match f with | .ret v => v | _ => .none))) s') (fun _ _ => False) { s with heap := h₁, toks := tk })
    (hco : scope.isCoroutine = false) (hgen : scope.isGenerator = false) (hk : scope.kind = .function) :
    codeC (model prog w) A (.call (.ref a) ⟨args, []⟩) R s := by
  refine codeC_call_function (fd := Calls.docDef name params body scope pm cd doc) hroom ho hdata hco hgen rfl hcd ?_
  rw [hbind]
  refine wpAny_pure (wpAny_newFunctionEnv_cells hk hkind fun env he s' x => ?_)
  subst he
  refine ⟨hlim.keeps x.toInCall.keep, codeC_func ?_⟩
  obtain ⟨h₁, tk, rfl, _⟩ := x.done
  have X : Cl s.heap.objs.size (cellsFrom (s.heap.objs.size + 1) scope.names []) h₁ (bindC (envOfC name scope s.heap.objs.size a cd).kindOf binds fun _ => none) := ⟨x.cell, x.apart, x.above⟩
  obtain ⟨cells, N, Y⟩ := Cl.news (h₀ := s.heap) (Nat.le_refl _) fun n c hm => ⟨X.cell n c (lookup_of_mem_nodup (cellsFrom_names scope.names 0 (s.heap.objs.size + 1) [] [] rfl ▸ hnd) hm), X.above n c hm⟩
  exact wpC_mono (h h₁ tk cells ⟨x.toInCall.ns, x.toInCall.keep, x.toInCall.fresh⟩ N Y) (fun _ _ z => z) fun _ _ z => z.elim
end
theorem wpC_execs_at (n : Nat) {M : Model} {A : Around} {E : Value → Shared → Prop} {s : Shared} {env : Env} {b : List Stmt} {Q : Flow → Shared → Prop}
    (h : wpAny M A (execs (b.take n) env) (fun f s' => match f with | .next => wpC M A (execs (b.drop n) env) Q E s' | f => Q f s') E s) : wpC M A (execs b env) Q E s := by
  have e := wpC_execs_split (l := b.take n) (rest := b.drop n) h
  rwa [List.take_append_drop] at e
theorem enter_C {M : Model} {A : Around} {s : Shared} {f : Value} {pos : List Value} {kw : List (PySem.Str × Value)} {c : ClaimW} {cl : PySem.Str → Option Addr} {mean : ExcName → Option Value} {args : List WData} {s₁ : Shared}
    (h : codeC M A (.call f ⟨pos, kw⟩) (GoodW c cl mean args s₁) s) : wpC M A (PySem.call f pos kw) (fun v s' => GoodWG c cl mean args s₁ (.ok (.ret v)) s') (fun e s' => GoodWG c cl mean args s₁ (.error e) s') s :=
  wpC_call (codeC_mono h fun res s' g => by rcases g.1 with ⟨v, _, _, rfl, _⟩ | ⟨e, _, _, rfl, _⟩ <;> exact g.toG)
end Mine

end
section
open PySem PySem.W PyProof.Rows
namespace Mine
section
variable {prog : Program} {w : World} {A : Around} {h₀ : Heap} {L : Addr} {m : Str → Option Value} {s : Shared} {news news' : List (Addr × Obj)} {P : Params} {E : Value → Shared → Prop} {Q : Value → Shared → Prop} {value slice : PySem.Expr} {rd row : List Int} {ys : List Value} {D : Addr} {k r : Int} {u : Tok}
theorem lst_is (N : News h₀ L s.heap news) (hD : (D, LCg.lst ys) ∈ news) : s.heap.IsList D ys.toArray := ⟨_, (N _ hD).1, rfl, ys.length, rfl⟩
theorem tok_item (N : News h₀ L s.heap news) (hD : (D, LCg.lst ys) ∈ news) (ht : Toks P news' ys 7 (fun i => clsOf (rd.getD (0 + (i : Int)).toNat 0)) (fun i => row.getD (0 + (i : Int)).toNat 0))
    (h0 : 0 ≤ k) (h1 : k < 7) (h : ∀ x, TokIn P news' x (clsOf (rd.getD k.toNat 0)) (row.getD k.toNat 0) → Q (.ref x) s)
    (hs : subscripted slice false (.ref D) (.int k u) = operate [.ref D, .int k u] (getItem (.ref D) (.int k u)) := by with_unfolding_all rfl) :
    wpAny (model prog w) A (subscriptTail value slice (.ref D) (.int k u)) Q E s := by
  obtain ⟨x, hx, t⟩ := ht.2 k.toNat (by omega)
  have e : (0 + (k.toNat : Int)).toNat = k.toNat := by omega
  simp only [e] at t
  exact item_litK (lst_is N hD) h0 (by omega) hx (h x t) hs
set_option maxRecDepth 100000 in
theorem title_item (F : Fr h₀ L s.heap m) (X₀ : (hd.heap_39 w.params).In h₀) (hr : 0 ≤ r ∧ r ≤ 6) (h : ∀ t, Q (.str (titleOf (clsOf r)) t) s)
    (hs : subscripted slice false (.ref 313) (.int r u) = operate [.ref 313, .int r u] (getItem (.ref 313) (.int r u)) := by with_unfolding_all rfl) :
    wpAny (model prog w) A (subscriptTail value slice (.ref 313) (.int r u)) Q E s := by
  have hc : r = 0 ∨ r = 1 ∨ r = 2 ∨ r = 3 ∨ r = 4 ∨ r = 5 ∨ r = 6 := by omega
  rcases hc with e | e | e | e | e | e | e <;> subst e
  · refine' topTup_K F X₀ ?l ?a ?b ?c ?d (h _) hs; (case l => k_is); (case a => decide); (case b => decide); (case c => rfl); (case d => rfl)
  · refine' topTup_K F X₀ ?l ?a ?b ?c ?d (h _) hs; (case l => k_is); (case a => decide); (case b => decide); (case c => rfl); (case d => rfl)
  · refine' topTup_K F X₀ ?l ?a ?b ?c ?d (h _) hs; (case l => k_is); (case a => decide); (case b => decide); (case c => rfl); (case d => rfl)
  · refine' topTup_K F X₀ ?l ?a ?b ?c ?d (h _) hs; (case l => k_is); (case a => decide); (case b => decide); (case c => rfl); (case d => rfl)
  · refine' topTup_K F X₀ ?l ?a ?b ?c ?d (h _) hs; (case l => k_is); (case a => decide); (case b => decide); (case c => rfl); (case d => rfl)
  · refine' topTup_K F X₀ ?l ?a ?b ?c ?d (h _) hs; (case l => k_is); (case a => decide); (case b => decide); (case c => rfl); (case d => rfl)
  · refine' topTup_K F X₀ ?l ?a ?b ?c ?d (h _) hs; (case l => k_is); (case a => decide); (case b => decide); (case c => rfl); (case d => rfl)
theorem ne_shown {C : Addr} {n : Int} {t u : Tok} (h : Q (.bool false) s) :
    wpAny (model prog w) A (compareOp .NotEq (.str (shown C n) t) (.str (Str.ofString "<" ++ titleOf C ++ Str.ofString ": " ++ Str.ofString (toString n) ++ Str.ofString ">") u)) Q E s := by
  refine PyProof.Rows.ne_str ?_
  have e : (shown C n != (Str.ofString "<" ++ titleOf C ++ Str.ofString ": " ++ Str.ofString (toString n) ++ Str.ofString ">")) = false := by
    unfold shown; exact bne_self_eq_false _
  rw [e]; exact h
end
end Mine

end
section
open PySem PySem.W PyProof.Rows
namespace Mine
/-- from a to b along the facts -/
noncomputable def way : Nat → List (Nat × Nat) → Nat → Nat → Bool
  | 0, _, _, _ => false
  | n + 1, fs, a, b => fs.any fun q => Nat.beq q.1 a && (Nat.beq q.2 b || way n fs q.2 b)
noncomputable def direct (fs : List (Nat × Nat)) (a b : Nat) : Bool := fs.any (fun q => Nat.beq q.1 a && Nat.beq q.2 b)
noncomputable def chain (fs : List (Nat × Nat)) : List Nat → Bool
  | [] => true
  | a :: r => match r with
    | [] => true
    | b :: _ => (direct fs a b || way 7 fs a b) && chain fs r
/-- every end of the tree that counts the first run: the run lies in order, by what was answered on the way to it -/
noncomputable def good (fs : List (Nat × Nat)) : KasT (Nat × Array Nat) → Bool
  | .ret r => (Nat.ble r.1 7 && r.2.toList.isPerm (List.range 7)) && chain fs (r.2.toList.take r.1)
  | .ask i j k => (Nat.blt i 7 && Nat.blt j 7) && (good ((i, j) :: fs) (k true) && good ((j, i) :: fs) (k false))
set_option maxRecDepth 1000000 in
set_option maxHeartbeats 8000000 in
theorem good7 : good [] (kas_count 7 (List.toArray (List.range 7))) = true := by decide +kernel
section
variable {key : Nat → Int} {fs : List (Nat × Nat)}
theorem beq_nat {a b : Nat} (h : Nat.beq a b = true) : a = b := Nat.eq_of_beq_eq_true h
theorem way_le (hf : ∀ q ∈ fs, key q.1 ≤ key q.2) : ∀ (n a b : Nat), way n fs a b = true → key a ≤ key b
  | 0, _, _, h => by cases h
  | n + 1, a, b, h => by
    simp only [way, List.any_eq_true, Bool.and_eq_true, Bool.or_eq_true] at h
    obtain ⟨q, hq, h1, h2⟩ := h
    have e1 := hf q hq
    rw [beq_nat h1] at e1
    rcases h2 with h2 | h2
    · rwa [beq_nat h2] at e1
    · exact Int.le_trans e1 (way_le hf n q.2 b h2)
theorem direct_le (hf : ∀ q ∈ fs, key q.1 ≤ key q.2) {a b : Nat} (h : direct fs a b = true) : key a ≤ key b := by
  simp only [direct, List.any_eq_true, Bool.and_eq_true] at h
  obtain ⟨q, hq, h1, h2⟩ := h
  have e1 := hf q hq
  rwa [beq_nat h1, beq_nat h2] at e1
theorem chain_asc (hf : ∀ q ∈ fs, key q.1 ≤ key q.2) : ∀ l : List Nat, chain fs l = true → (l.map key).Pairwise (· ≤ ·)
  | [], _ => .nil
  | [a], _ => .cons (by simp) .nil
  | a :: b :: r, h => by
    have h' : ((direct fs a b || way 7 fs a b) && chain fs (b :: r)) = true := h
    simp only [Bool.and_eq_true, Bool.or_eq_true] at h'
    have hr := chain_asc hf (b :: r) h'.2
    have hab : key a ≤ key b := h'.1.elim (direct_le hf) (way_le hf 7 a b)
    refine .cons (fun x hx => ?_) hr
    rcases List.mem_cons.mp hx with rfl | hx
    · exact hab
    · exact Int.le_trans hab ((List.pairwise_cons.mp hr).1 x hx)
theorem blt_nat {a b : Nat} (h : Nat.blt a b = true) : a < b := Nat.le_of_ble_eq_true h
/-- the first k lie in order -/
def Asc (key : Nat → Int) (p : Array Nat) (k : Nat) : Prop := ∀ i j, i < j → j < k → key (p.getD i 0) ≤ key (p.getD j 0)
theorem getD_list (p : Array Nat) (i : Nat) : p.getD i 0 = p.toList.getD i 0 := by
  simp [Array.getD_eq_getD_getElem?, List.getD]
theorem asc_of {p : Array Nat} {k : Nat} (hk : k ≤ p.toList.length) (h : ((p.toList.take k).map key).Pairwise (· ≤ ·)) : Asc key p k := by
  intro i j hij hj
  have h' := List.pairwise_iff_getElem.mp h i j (by rw [List.length_map, List.length_take]; omega) (by rw [List.length_map, List.length_take]; omega) hij
  simp only [List.getElem_map, List.getElem_take] at h'
  rw [getD_list, getD_list]
  simpa [List.getD, List.getElem?_eq_getElem (show i < p.toList.length by omega), List.getElem?_eq_getElem (show j < p.toList.length by omega)] using h'
theorem pairwise_of {p : Array Nat} (h : Asc key p p.toList.length) : (p.toList.map key).Pairwise (· ≤ ·) := by
  refine List.pairwise_iff_getElem.mpr fun i j hi hj hij => ?_
  simp only [List.length_map] at hi hj
  have h' := h i j hij hj
  rw [getD_list, getD_list] at h'
  rw [List.getElem_map, List.getElem_map]
  simpa [List.getD, List.getElem?_eq_getElem hi, List.getElem?_eq_getElem hj] using h'
theorem in7 {p : Array Nat} (hp : p.toList.Perm (List.range 7)) (i : Nat) : p.getD i 0 < 7 := by
  rw [getD_list]
  by_cases hi : i < p.toList.length
  · rw [List.getD, List.getElem?_eq_getElem hi]
    exact List.mem_range.mp (hp.mem_iff.mp (List.getElem_mem hi))
  · rw [List.getD, List.getElem?_eq_none (by omega)]
    decide
theorem bubble_getD {p : Array Nat} {k l : Nat} (hk : k < p.size) (hl : l ≤ k) (i : Nat) :
    (bubble p k (k - l)).getD i 0 = if i = l then p.getD k 0 else if l < i ∧ i ≤ k then p.getD (i - 1) 0 else p.getD i 0 := by
  simp only [Array.getD_eq_getD_getElem?]
  rw [getElem?_bubble hk _ (by omega), show k - (k - l) = l by omega]
  repeat' split
  all_goals rfl
theorem bubble_asc {p : Array Nat} {k l : Nat} (hk : k < p.size) (hl : l ≤ k) (ha : Asc key p k) (h1 : ∀ i, i < l → key (p.getD i 0) ≤ key (p.getD k 0))
    (h2 : ∀ i, l ≤ i → i < k → key (p.getD k 0) ≤ key (p.getD i 0)) : Asc key (bubble p k (k - l)) (k + 1) := by
  intro i j hij hj
  rw [bubble_getD hk hl, bubble_getD hk hl]
  by_cases e1 : i = l
  · rw [if_pos e1, if_neg (by omega), if_pos (by omega)]
    exact h2 _ (by omega) (by omega)
  · rw [if_neg e1]
    by_cases e2 : j = l
    · rw [if_pos e2, if_neg (by omega)]
      exact h1 _ (by omega)
    · rw [if_neg e2]
      by_cases e3 : l < i ∧ i ≤ k
      · rw [if_pos e3, if_pos (by omega)]
        exact ha _ _ (by omega) (by omega)
      · rw [if_neg e3]
        by_cases e4 : l < j ∧ j ≤ k
        · rw [if_pos e4]
          by_cases e5 : i = j - 1
          · rw [e5]; exact Int.le_refl _
          · exact ha _ _ (by omega) (by omega)
        · rw [if_neg e4]
          exact ha _ _ hij (by omega)
variable {cmp : Nat → Nat → (Bool → Shared → Prop) → Shared → Prop} {J : Shared → Prop}
theorem count_good (hc : ∀ i j, i < 7 → j < 7 → ∀ (C : Bool → Shared → Prop) s, J s → (∀ s', J s' → C (decide (key i < key j)) s') → cmp i j C s) {Q : Nat × Array Nat → Shared → Prop}
    (hQ : ∀ (r : Nat × Array Nat) s', J s' → r.1 ≤ 7 → r.2.toList.Perm (List.range 7) → Asc key r.2 r.1 → Q r s') :
    ∀ (t : KasT (Nat × Array Nat)) (fs : List (Nat × Nat)), good fs t = true → (∀ q ∈ fs, key q.1 ≤ key q.2) → ∀ s, J s → t.kasWp cmp Q s
  | .ret r, fs, hg, hf, s, hJ => by
    simp only [good, Bool.and_eq_true] at hg
    have hp := List.isPerm_iff.mp hg.1.2
    have hn : r.1 ≤ 7 := Nat.le_of_ble_eq_true hg.1.1
    exact hQ r s hJ hn hp (asc_of (by rw [hp.length_eq]; simpa using hn) (chain_asc hf _ hg.2))
  | .ask i j k, fs, hg, hf, s, hJ => by
    simp only [good, Bool.and_eq_true] at hg
    refine hc i j (blt_nat hg.1.1) (blt_nat hg.1.2) _ s hJ fun s' hJ' => ?_
    by_cases h : key i < key j
    · rw [decide_eq_true h]
      refine count_good hc hQ (k true) _ hg.2.1 (fun q hq => ?_) s' hJ'
      rcases List.mem_cons.mp hq with rfl | hq
      · exact Int.le_of_lt h
      · exact hf q hq
    · rw [decide_eq_false h]
      refine count_good hc hQ (k false) _ hg.2.2 (fun q hq => ?_) s' hJ'
      rcases List.mem_cons.mp hq with rfl | hq
      · exact Int.not_lt.mp h
      · exact hf q hq
theorem place_good (hc : ∀ i j, i < 7 → j < 7 → ∀ (C : Bool → Shared → Prop) s, J s → (∀ s', J s' → C (decide (key i < key j)) s') → cmp i j C s) {R : Nat → Shared → Prop}
    {p : Array Nat} {k : Nat} (hp : p.toList.Perm (List.range 7)) (ha : Asc key p k)
    (hR : ∀ l s', J s' → l ≤ k → (∀ i, i < l → key (p.getD i 0) ≤ key (p.getD k 0)) → (∀ i, l ≤ i → i < k → key (p.getD k 0) ≤ key (p.getD i 0)) → R l s') :
    ∀ (f l r : Nat), r ≤ l + f → l ≤ r → r ≤ k → (∀ i, i < l → key (p.getD i 0) ≤ key (p.getD k 0)) → (∀ i, r ≤ i → i < k → key (p.getD k 0) ≤ key (p.getD i 0)) →
      ∀ s, J s → (kas_place p k f l r).kasWp cmp R s
  | 0, l, r, hf, hl, hr, h1, h2, s, hJ => hR l s hJ (by omega) h1 (fun i hi => h2 i (by omega))
  | f + 1, l, r, hf, hl, hr, h1, h2, s, hJ => by
    unfold kas_place
    by_cases e : l ≥ r
    · rw [if_pos e]
      exact hR l s hJ (by omega) h1 (fun i hi => h2 i (by omega))
    · rw [if_neg e]
      refine hc _ _ (in7 hp _) (in7 hp _) _ s hJ fun s' hJ' => ?_
      by_cases h : key (p.getD k 0) < key (p.getD ((l + r) / 2) 0)
      · rw [decide_eq_true h]
        simp only [if_true]
        refine place_good hc hp ha hR f _ _ (by omega) (by omega) (by omega) h1 (fun i hi hk => ?_) s' hJ'
        by_cases e2 : (l + r) / 2 = i
        · rw [← e2]; exact Int.le_of_lt h
        · exact Int.le_trans (Int.le_of_lt h) (ha _ _ (by omega) hk)
      · rw [decide_eq_false h]
        simp only [Bool.false_eq_true, if_false]
        refine place_good hc hp ha hR f _ _ (by omega) (by omega) (by omega) (fun i hi => ?_) h2 s' hJ'
        have h' := Int.not_lt.mp h
        by_cases e2 : i = (l + r) / 2
        · rw [e2]; exact h'
        · exact Int.le_trans (ha _ _ (show i < (l + r) / 2 by omega) (by omega)) h'
theorem bin_good (hc : ∀ i j, i < 7 → j < 7 → ∀ (C : Bool → Shared → Prop) s, J s → (∀ s', J s' → C (decide (key i < key j)) s') → cmp i j C s) {Q : Array Nat → Shared → Prop}
    (hQ : ∀ (p : Array Nat) s', J s' → p.toList.Perm (List.range 7) → (p.toList.map key).Pairwise (· ≤ ·) → Q p s') :
    ∀ (f : Nat) (p : Array Nat) (k : Nat), k + f = 7 → p.toList.Perm (List.range 7) → Asc key p k → ∀ s, J s → (kas_bin f p k).kasWp cmp Q s
  | 0, p, k, hk, hp, ha, s, hJ => hQ p s hJ hp (pairwise_of (by rw [hp.length_eq]; simp only [List.length_range]; rwa [show k = 7 by omega] at ha))
  | f + 1, p, k, hk, hp, ha, s, hJ => by
    have hs : p.size = 7 := by rw [← Array.length_toList, hp.length_eq]; rfl
    rw [show kas_bin (f + 1) p k = (kas_place p k k 0 k).bind fun l => kas_bin f (bubble p k (k - l)) (k + 1) from rfl, KasT.kasWp_bind]
    refine place_good hc hp ha (fun l s' hJ' hl h1 h2 => ?_) k 0 k (by omega) (by omega) (Nat.le_refl _) (fun i hi => absurd hi (Nat.not_lt_zero _)) (fun i hi hk => absurd hk (by omega)) s hJ
    exact bin_good hc hQ f _ (k + 1) (by omega) ((Array.perm_iff_toList_perm.mp (bubble_perm p k (k - l))).trans hp) (bubble_asc (by omega) hl ha h1 h2) s' hJ'
theorem sort7_good (hc : ∀ i j, i < 7 → j < 7 → ∀ (C : Bool → Shared → Prop) s, J s → (∀ s', J s' → C (decide (key i < key j)) s') → cmp i j C s) {Q : Array Nat → Shared → Prop}
    (hQ : ∀ (p : Array Nat) s', J s' → p.toList.Perm (List.range 7) → (p.toList.map key).Pairwise (· ≤ ·) → Q p s') (s : Shared) (hJ : J s) : (kas_sort 7).kasWp cmp Q s := by
  unfold kas_sort
  rw [KasT.kasWp_bind]
  refine count_good hc (fun r s' hJ' h7 hp ha => ?_) _ [] good7 (fun q hq => nomatch hq) s hJ
  by_cases e : r.1 < 7
  · rw [if_pos e]
    refine bin_good hc hQ _ _ _ (by omega) hp ?_ s' hJ'
    by_cases e0 : r.1 ≤ 1
    · rw [show max r.1 1 = 1 by omega]
      exact fun i j hij hj => absurd hj (by omega)
    · rwa [show max r.1 1 = r.1 by omega]
  · rw [if_neg e]
    exact hQ _ _ hJ' hp (pairwise_of (by rw [hp.length_eq]; simp only [List.length_range]; rwa [show r.1 = 7 by omega] at ha))
end
end Mine

end
section
open PySem PySem.W PySem.Calls PyProof.Rows
namespace Mine
section
variable {M : Model} {A : Around} {E : Value → Shared → Prop} {s : Shared}
/-- the types of a list's items, one by one -/
theorem types_of {f : Value → Sem Value} {T : Value → Value} : ∀ (l : List Value) {Q : List Value → Shared → Prop}, (∀ v ∈ l, Looks M s.heap (f v) (T v)) → Q (l.map T) s → wpAny M A (l.mapM f) Q E s
  | [], _, _, h => by rw [List.mapM_nil]; exact wpAny_pure h
  | x :: l, Q, hf, h => by
    rw [List.mapM_cons]
    exact wpAny_bind ((hf x (.head _)).here (wpAny_bind (types_of l (fun v hv => hf v (.tail _ hv)) (wpAny_pure h))))
/-- no tuple among the keys: the sort asks each key's own word, or compares in full -/
theorem kind_any {vs : List Value} {T : Value → Value} {Q : SortKind → Shared → Prop} (h2 : 2 ≤ vs.length) (hT : ∀ v ∈ vs, Looks M s.heap (typeOf v) (T v)) (hn : ∀ v ∈ vs, (T v != Value.type "tuple") = true)
    (h : ∀ κ, κ = oneType' ∨ κ = general' → Q κ s) : wpAny M A (keyKind' vs.toArray) Q E s := by
  match vs, h2 with
  | v₁ :: v₂ :: r, _ =>
    rw [keyKind'_eq, List.mapM_toArray, map_eq_pure_bind]
    refine wpAny_bind (wpAny_bind (kas_mapM (r := none) _ (fun v hv Q' hq => ?_) (wpAny_pure ?_)))
    · rw [kas_first_eq]
      refine wpAny_bind ((hT v hv).here ?_)
      rw [if_pos (hn v hv)]
      exact wpAny_pure hq
    · rw [if_neg (by simp), if_neg (by simp)]
      rw [oneTypeOnly'_eq, List.mapM_toArray, map_eq_pure_bind]
      refine wpAny_bind (wpAny_bind (wpAny_bind (types_of (T := T) _ hT (wpAny_pure ?_))))
      have h0 : (List.map T (v₁ :: v₂ :: r)).toArray[0]? = some (T v₁) := by simp
      rw [h0]
      dsimp only
      split
      · exact wpAny_pure (wpAny_pure (h _ (.inl rfl)))
      · exact wpAny_pure (wpAny_pure (h _ (.inr rfl)))
end
section
variable {prog : Program} {w : World} {A : Around} {E : Value → Shared → Prop} {s : Shared} {h₀ : Heap} {L a : Addr} {m : Str → Option Value} {news : List (Addr × Obj)} {vs : List Value} {T : Value → Value}
/-- sorted of objects of several classes: what is asked of them, and where they come to lie -/
theorem sorted_mixed {l : Addr} {Q : Value → Shared → Prop} (F : Fr h₀ L s.heap m) (N : News h₀ L s.heap news) (hl : s.heap.IsList l vs.toArray) (h2 : 2 ≤ vs.length) (h64 : vs.length < 64)
    (hT : ∀ h, Fr h₀ L h m → News h₀ L h news → ∀ v ∈ vs, Looks (model prog w) h (typeOf v) (T v)) (hn : ∀ v ∈ vs, (T v != Value.type "tuple") = true)
    (h : ∀ κ, κ = oneType' ∨ κ = general' → ∀ D e1 h', Fr h₀ L h' m → News h₀ L h' ((D, seqObj "list" #[] e1) :: news) → (∀ q ∈ news, q.1 < D) →
      (kas_sort vs.length).kasWp (kas_ask prog w A.in1.in1 κ vs) (fun p s' => KasFin h₀ L m D e1 (p.toList.map fun i => vs.getD i Value.none) (fun s'' => Q (.ref D) s'') s') { s with heap := h' }) :
    wpAny (model prog w) A (call (.builtin "sorted") [.ref l]) Q E s :=
  kat_sorted F N hl h2 h64 fun D e1 h' F' N' l => kind_any h2 (hT h' F' fun p hp => N' p (.tail _ hp)) hn fun κ hκ => h κ hκ D e1 h' F' N' l
end
end Mine

end
section
open PySem PySem.W PySem.Calls PyProof.Rows
namespace Mine
section
variable {prog : Program} {w : World} {A : Around} {s : Shared} {x y C D L : Addr} {h₀ base : Heap} {m : Str → Option Value} {news : List (Addr × Obj)} {a b : Int} {env : Env} {outer : List Env} {E : Value → Shared → Prop} {k : Nat}
theorem truth_of {v : Bool} {Q : Bool → Shared → Prop} (h : Q v s) : wpAny (model prog w) A (truthOfDropped (.bool v)) Q E s := wpAny_truthy_bool h
set_option maxRecDepth 100000 in
theorem tok_less {κ : SortKind} {Q : Bool → Shared → Prop} (hκ : κ = oneType' ∨ κ = general') (c : Cx (k + 5) w A base h₀ env outer L m news s.heap) (tx : TokIn w.params news x C a) (ty : TokIn w.params news y D b)
    (h : ∀ h' tk, Fr h₀ L h' m → News h₀ L h' news → Q (decide (a < b)) { s with heap := h', toks := tk }) :
    wpAny (model prog w) A (keyLt' κ (.ref x) (.ref y)) Q E s := by
  rcases hκ with rfl | rfl
  · obtain ⟨_, _, _, I⟩ := tok_inst c.N tx
    exact kas_lt_inst c.hu c.F c.X I (tok_fn tx.cls (by k_is) (by k_is) (by k_is)) (by k_is) (wpAny_call (lt_code (k := k + 4) c tx ty fun h' tk F N => h h' tk F N))
  · show wpAny _ _ (oneLt' false (.ref x) (.ref y)) Q E s
    rw [oneLt'_eq]
    simp only [Bool.false_eq_true, if_false]
    have e : ∀ Q' : Value → Shared → Prop, (∀ h' tk, Fr h₀ L h' m → News h₀ L h' news → Q' (.bool (decide (a < b))) { s with heap := h', toks := tk }) → wpAny (model prog w) A (richCompare .Lt (.ref x) (.ref y)) Q' E s := fun Q' h' =>
      rich_tok c tx ty
        (try_fn c tx (tok_fn tx.cls (by k_is) (by k_is) (by k_is)) (by k_is) (lt_code (k := k + 4) c tx ty fun h1 tk F N => ⟨rfl, h' h1 tk F N⟩))
        (try_fn c ty (tok_fn ty.cls (by k_is) (by k_is) (by k_is)) (by k_is) (gt_code c ty tx fun v h1 tk e F N => by subst e; exact ⟨rfl, h' h1 tk F N⟩))
    exact wpAny_bind (e _ fun h' tk F N => truth_of (h h' tk F N))

/-- sorted lays tokens in their numbers' order -/
theorem sorted_toks {ys : List Value} {cls : Nat → Addr} {val : Nat → Int} {Q : Value → Shared → Prop} {news' : List (Addr × Obj)} (c : Cx (k + 8) w A base h₀ env outer L m news s.heap) (hD : (D, LCg.lst ys) ∈ news) (ht : Toks w.params news' ys 7 cls val) (hs : ∀ p ∈ news', p ∈ news)
    (h : ∀ outs cls' val' D' c' h' tk, Toks w.params news' outs 7 cls' val' → ((List.range 7).map val').Perm ((List.range 7).map val) → ((List.range 7).map val').Pairwise (· ≤ ·) → Fr h₀ L h' m → News h₀ L h' ((D', listOf outs.toArray c') :: news) →
      (∀ q ∈ news, q.1 < D') → Q (.ref D') { s with heap := h', toks := tk }) :
    wpAny (model prog w) A (call (.builtin "sorted") [.ref D]) Q E s := by
  have hlen : ys.length = 7 := ht.1
  have item : ∀ v ∈ ys, ∃ x C n, v = .ref x ∧ TokIn w.params news' x C n := fun v hv => by
    obtain ⟨i, hi, e⟩ := List.getElem_of_mem hv
    obtain ⟨x, hx, t⟩ := ht.2 i (by omega)
    rw [List.getElem?_eq_getElem hi, e] at hx
    exact ⟨x, _, _, Option.some.inj hx, t⟩
  have hcls : ∀ v : Value, ∃ C : Value, v ∈ ys → ∀ h', News h₀ L h' news → Looks (model prog w) h' (typeOf v) C ∧ (C != Value.type "tuple") = true := fun v => by
    by_cases hv : v ∈ ys
    · obtain ⟨x, C, n, rfl, t⟩ := item v hv
      refine ⟨.ref C, fun _ h' N => ?_⟩
      obtain ⟨_, _, _, I⟩ := tok_inst (s := { s with heap := h' }) N (t.mono hs)
      exact ⟨I.type, rfl⟩
    · exact ⟨.none, fun h => absurd h hv⟩
  have hT : ∃ T : Value → Value, ∀ v ∈ ys, ∀ h', News h₀ L h' news → Looks (model prog w) h' (typeOf v) (T v) ∧ (T v != Value.type "tuple") = true :=
    ⟨fun v => (hcls v).choose, fun v => (hcls v).choose_spec⟩
  obtain ⟨T, hT⟩ := hT
  refine sorted_mixed (T := T) c.F c.N (lst_is c.N hD) (by omega) (by omega) (fun h' _ N v hv => (hT v hv h' N).1) (fun v hv => (hT v hv s.heap c.N).2) fun κ hκ D' e1 h1 F1 N1 l1 => ?_
  rw [hlen]
  refine sort7_good (key := val) (J := fun s' => ∃ h' tk, s' = { s with heap := h', toks := tk } ∧ Fr h₀ L h' m ∧ News h₀ L h' ((D', seqObj "list" #[] e1) :: news))
    (fun i j hi hj C s' hJ hC => ?_) (fun p s' hJ hp ha => ?_) _ ⟨h1, s.toks, rfl, F1, N1⟩
  · obtain ⟨h', tk, rfl, F', N'⟩ := hJ
    obtain ⟨x, hx, tx⟩ := ht.2 i hi
    obtain ⟨y, hy, ty⟩ := ht.2 j hj
    have ex : ys.getD i Value.none = .ref x := by simp [List.getD, hx]
    have ey : ys.getD j Value.none = .ref y := by simp [List.getD, hy]
    unfold kas_ask
    rw [ex, ey]
    have c' : Cx (k + 5) w A.in1.in1 base h₀ env outer L m ((D', seqObj "list" #[] e1) :: news) h' := (((c.on F' N').le (show (k + 5) + 1 + 1 ≤ k + 8 by omega)).in1).in1
    exact tok_less (s := { s with heap := h', toks := tk }) hκ c' (tx.mono fun p hp => .tail _ (hs p hp)) (ty.mono fun p hp => .tail _ (hs p hp)) fun h'' tk' F'' N'' => hC _ ⟨h'', tk', rfl, F'', N''⟩
  · obtain ⟨h', tk, rfl, F', N'⟩ := hJ
    generalize p.toList = l at hp ha ⊢
    refine KasFin.intro F' N' (.head fun q hq => Nat.ne_of_lt (l1 q hq)) fun h'' c' F'' N'' => ?_
    have hpl : l.length = 7 := by rw [hp.length_eq]; rfl
    have at' : ∀ j, (hj : j < l.length) → l.getD j 0 = l[j] := fun j hj => by simp [List.getD, List.getElem?_eq_getElem hj]
    have hmap : ((List.range 7).map fun i => val (l.getD i 0)) = l.map val := by
      apply List.ext_getElem
      · simp [hpl]
      · intro i h1 h2
        simp only [List.length_map, List.length_range] at h1
        rw [List.getElem_map, List.getElem_map, List.getElem_range, at' i (by omega)]
    refine h _ (fun i => cls (l.getD i 0)) (fun i => val (l.getD i 0)) D' c' h'' tk ⟨by rw [List.length_map, hpl], fun j hj => ?_⟩ (by rw [hmap]; exact hp.map val) (by rw [hmap]; exact ha) F'' N'' l1
    have hj' : j < l.length := by omega
    have hm : l[j] ∈ List.range 7 := hp.mem_iff.mp (List.getElem_mem hj')
    obtain ⟨x, hx, t⟩ := ht.2 l[j] (List.mem_range.mp hm)
    refine ⟨x, ?_, by show TokIn _ _ _ (cls (l.getD j 0)) (val (l.getD j 0)); rw [at' j hj']; exact t⟩
    rw [List.getElem?_map, List.getElem?_eq_getElem hj']
    show some (ys.getD l[j] Value.none) = _
    simp [List.getD, hx]
end
section
variable {prog : Program} {w : World} {A : Around} {h₀ : Heap} {L : Addr} {m : Str → Option Value} {env : Env} {elt : PySem.Expr} {x : Str} {scope : Scope} {cl : List (Str × Addr)} {s : Shared} {Fin : List Value → List (Addr × Obj) → Prop} {news news₀ : List (Addr × Obj)} {cls : Nat → Addr} {val : Nat → Int} {P : Params} {S : List (Addr × Obj) → Prop} {outs : List Value}
def IntEl (news : List (Addr × Obj)) (n : Int) (y : Value) (news' : List (Addr × Obj)) : Prop := ∃ t, y = .int n t ∧ ∀ p ∈ news, p ∈ news'
/-- a list of the numbers of a list of tokens -/
theorem vals_rest (ht : Toks w.params news₀ outs 7 cls val) (hS : ∀ news', (∀ p ∈ news, p ∈ news') → S news')
    (turn : ∀ (i : Nat) x₁ I oI C oC D m₂ ys h tk (E' : Value → Shared → Prop), TokIn w.params news₀ x₁ (cls i) (val i) → LCg.NsObj oC m₂ → m₂ x = some (.ref x₁) → Fr h₀ L h m → News h₀ L h ((I, oI) :: (C, oC) :: (D, LCg.lst ys) :: news) →
      wpAny (model prog w) A (eval elt (compEnvC scope cl C env)) (fun y s' => ∃ t tk', y = .int (val i) t ∧ s' = { s with heap := h, toks := tk' }) E' { s with heap := h, toks := tk })
    (fin : ∀ ys news', (∀ p ∈ news, p ∈ news') → IntsAre ys ((List.range 7).map val) → Fin ys news') :
    LCg.CompRest prog w A h₀ L m env elt x scope cl s S (fun i v => outs.toArray[i]? = some v) Fin 7 0 [] news := by
  have key : ∀ (j i : Nat) (ys : List Value) (news' : List (Addr × Obj)), i + j = 7 → (∀ p ∈ news, p ∈ news') → IntsAre ys ((List.range i).map val) →
      LCg.CompRest prog w A h₀ L m env elt x scope cl s S (fun i v => outs.toArray[i]? = some v) Fin j i ys news' := by
    intro j
    induction j with
    | zero =>
      intro i ys news' hi hs hI
      have e : i = 7 := by omega
      subst e
      exact LCg.CompRest.zero (fin ys news' hs hI)
    | succ j ih =>
      intro i ys news' hi hs hI
      refine LCg.CompRest.succ ?_
      intro v I oI C oC D m₂ h tk E' hv hC hx F N off ne
      obtain ⟨x₁, hx₁, t⟩ := ht.2 i (by omega)
      have e : v = .ref x₁ := by
        rw [List.getElem?_toArray, hx₁] at hv
        exact (Option.some.inj hv).symm
      subst e
      refine wpAny_mono (turn i x₁ I oI C oC D m₂ ys h tk E' t hC hx F (news_front N hs)) (fun y s₂ hq => ?_) fun _ _ e => e
      obtain ⟨t', tk', rfl, rfl⟩ := hq
      refine LCg.CompEnd.intro F N news' (fun _ hp => hp) off (hS news' hs) (ih (i + 1) _ news' (by omega) hs ?_)
      rw [List.range_succ, List.map_append]
      exact hI.append (.cons _ _ .nil)
  exact key 7 0 [] news rfl (fun _ h => h) .nil
theorem vals_src {Fin : Shared → List Value → List (Addr × Obj) → Prop} {ax : Addr} {c : Nat} {s₁ : Shared} (hh : A.handled = none) (F : Fr h₀ L s₁.heap m) (N : News h₀ L s₁.heap news) (hm : (ax, listOf outs.toArray c) ∈ news) (ht : Toks w.params news₀ outs 7 cls val)
    (turn : ∀ g (i : Nat) x₁ I oI C oC D m₂ ys h tk (E' : Value → Shared → Prop), TokIn w.params news₀ x₁ (cls i) (val i) → LCg.NsObj oC m₂ → m₂ x = some (.ref x₁) → Fr h₀ L h m → News h₀ L h ((I, oI) :: (C, oC) :: (D, LCg.lst ys) :: news) →
      wpAny (model prog w) A (eval elt (compEnvC scope cl C env)) (fun y s' => ∃ t tk', y = .int (val i) t ∧ s' = { ({ s₁ with heap := g } : Shared) with heap := h, toks := tk' }) E' { ({ s₁ with heap := g } : Shared) with heap := h, toks := tk })
    (fin : ∀ g ys news', (∀ p ∈ news, p ∈ news') → IntsAre ys ((List.range 7).map val) → Fin { s₁ with heap := g } ys news') :
    LCg.CompSrc prog w A h₀ L m env elt x scope cl Fin (.ref ax) s₁ := by
  have hz : outs.toArray.size = 7 := by rw [List.size_toArray]; exact ht.1
  refine LCg.CompSrc.ledger hh F N hm (by rw [hz, sizeLine_eq]; decide) fun g => ?_
  rw [hz]
  exact vals_rest ht (fun news' hs => .inr ⟨_, hs _ hm, rfl, _, rfl⟩) (turn g) (fin g)
theorem news_keep {h : Heap} {a : Addr × Obj} {ex news' : List (Addr × Obj)} (N : News h₀ L h (a :: news')) (hs : ∀ p ∈ ex, p ∈ news') : News h₀ L h (a :: ex) := fun p hp => N p (by
  rcases List.mem_cons.mp hp with h | h
  · exact h ▸ .head _
  · exact .tail _ (hs p h))
/-- two lists of the same numbers, both in order -/
theorem same_order {a b c : List Int} (h1 : a.Perm c) (h2 : b.Perm c) (p1 : a.Pairwise (· ≤ ·)) (p2 : b.Pairwise (· ≤ ·)) : a = b := lks_uniq (h1.trans h2.symm) p1 p2
theorem sorted_same {row n' : List Int} {v' : Nat → Int} (p : n'.Perm row) (o : n'.Pairwise (· ≤ ·)) (pp : ((List.range 7).map v').Perm ((List.range 7).map fun (i : Nat) => row.getD (0 + (i : Int)).toNat 0)) (pa : ((List.range 7).map v').Pairwise (· ≤ ·)) (hl : row.length = 7) : (List.range 7).map v' = n' := by
  have e : ((List.range 7).map fun (i : Nat) => row.getD (0 + (i : Int)).toNat 0) = row := by
    apply List.ext_getElem
    · simp [hl]
    · intro i h1 h2
      have e : (0 + (i : Int)).toNat = i := by omega
      rw [List.getElem_map, List.getElem_range, e]
      simp [List.getD, List.getElem?_eq_getElem h2]
  rw [e] at pp
  exact same_order pp p pa o
theorem ne_same {prog : Program} {w : World} {A : Around} {E : Value → Shared → Prop} {s : Shared} {a b : Addr} {xs ys : List Value} {ns ms : List Int} {Q : Value → Shared → Prop} (ha : s.heap.IsList a xs.toArray) (hi : IntsAre xs ns) (hb : s.heap.IsList b ys.toArray) (hj : IntsAre ys ms) (hu : A.units + 64 < cLine) (e : ns = ms) (h : Q (.bool false) s) :
    wpAny (model prog w) A (compareOp .NotEq (.ref a) (.ref b)) Q E s :=
  ke_ne_ints ha hb hi hj hu (by rw [decide_eq_true e]; exact h)
end
end Mine

end
section
open PySem PySem.W PySem.Calls PyProof.Rows
namespace Mine
section
variable {prog : Program} {w : World} {A : Around} {E : Value → Shared → Prop} {s : Shared} {env : Env} {h₀ : Heap} {L : Addr}

/-- a loop over a range, its turns told one by one -/
theorem wpC_For {target : PySem.Expr} {iter : PySem.Expr} {body orelse : List Stmt} {pos : Pos} {Q : Flow → Shared → Prop}
    (h : wpAny (model prog w) A (eval iter env) (fun x s₁ => wpAny (model prog w) A (pyIter x) (fun it s₂ =>
      codeC (model prog w) A (.forLoop target it body orelse env) (fun r s' => match r with | .ok f => Q f s' | .error _ => False) s₂) E s₁) E s)
    (hs : ∀ x, foldedSetIterable iter env x = pure x := by intro _; rfl) :
    wpC (model prog w) A (exec (.For target iter body orelse pos) env) Q E s := by
  rw [exec_For]
  refine wpC_standAt (wpC_then (wpAny_mono h (fun x s₁ h₁ => wpC_then (wpAny_of_eq (hs x) (wpC_standAt (wpC_then (wpAny_holding
    (wpAny_mono h₁ (fun it s₂ h₂ => ?_) fun _ _ h' => h')))))) fun _ _ h' => h'))
  unfold runOwn
  exact wpC_onRaise (wpC_run (codeC_mono h₂ fun r s' h' => by cases r with | ok f => exact h' | error e => exact h'.elim))

theorem wpC_onRaise_no {α : Type} {M : Model} {m : Sem α} {k : Value → Sem Unit} {Q : α → Shared → Prop} {E : Value → Shared → Prop} (h : wpC M A m Q (fun _ _ => False) s) : wpC M A (m.onRaise k) Q E s :=
  wpC_onRaise (wpC_mono h (fun _ _ x => x) fun _ _ x => x.elim)

theorem codeC_turn {R : Result → Shared → Prop} {x : Str} {px : Pos} {body : List Stmt} {I : Addr} {k left : Int} {m : Str → Option Value} {news : List (Addr × Obj)} (hL : env.locals = L) (hx : env.kindOf x = some .local)
    (hp : (env.scope.kind == .class || (env.scope.kind == .module && env.locals != env.globals)) = false)
    (F : Fr h₀ L s.heap m) (N : News h₀ L s.heap ((I, itR k left) :: news)) (off : ∀ p ∈ news, p.1 ≠ I) (hl : 0 < left)
    (turn : ∀ t h' tk, Fr h₀ L h' (fun y => if y = x then some (.int k t) else m y) → News h₀ L h' ((I, itR (k + 1) (left - 1)) :: news) →
      wpC (model prog w) A (execs body env) (fun f s₃ => match f with
        | .next | .cont => codeC (model prog w) A (.forLoop (.Name x px) (.ref I) body [] env) R s₃
        | .brk => R (.ok .next) s₃
        | .ret v => R (.ok (.ret v)) s₃) (fun _ _ => False) { s with heap := h', toks := tk }) :
    codeC (model prog w) A (.forLoop (.Name x px) (.ref I) body [] env) R s := by
  subst hL
  have nI := N (I, itR k left) (.head _)
  refine codeC_of_tree ?_
  show wpC _ _ ((forTurn (.Name x px) (.ref I) body [] env).onRaise (fun x => do noteFrame x env; theTreesLotGoes x)) _ _ s
  refine wpC_onRaise_no ?_
  simp only [forTurn]
  refine wpC_standAt (wpC_then (wpAny_onRaise (wpAny_pyNext_range_item (nI.1 : IsRangeIter s.heap I k left 1) hl fun h' hit hs => ?_)))
  dsimp only
  refine wpC_then (wpAny_of_eq (show letOwnedTupleGo (.Name x px) (.ref I) (.int k s.toks) = pure () from rfl) ?_)
  have F₁ : Fr h₀ env.locals h' m := kas_fr F hs nI.2.1 nI.2.2
  have N₁ : News h₀ env.locals h' ((I, itR (k + 1) (left - 1)) :: news) := fun p hp => by
    rcases List.mem_cons.mp hp with rfl | hp
    · exact ⟨hit, nI.2.1, nI.2.2⟩
    · exact kas_news (fun q hq => N q (.tail _ hq)) hs off p hp
  refine wpC_then (wpAny_assign_Name (wpAny_storeName_local hx F₁.ns (fun h₂ hn₂ hs₂ => ?_) hp))
  refine wpC_bind (wpC_mono (turn s.toks h₂ _ (F₁.set hn₂ hs₂) (N₁.set hs₂)) (fun f s₃ h₃ => ?_) fun _ _ h' => h')
  cases f with
  | next => exact wpC_pure ⟨rfl, h₃⟩
  | cont => exact wpC_pure ⟨rfl, h₃⟩
  | brk => exact wpC_pure h₃
  | ret v => exact wpC_pure h₃

theorem codeC_turns_end {R : Result → Shared → Prop} {x : Str} {px : Pos} {body : List Stmt} {I : Addr} {k left : Int} {m : Str → Option Value} {news : List (Addr × Obj)} (hh : A.handled = none) (hL : env.locals = L)
    (F : Fr h₀ L s.heap m) (N : News h₀ L s.heap ((I, itR k left) :: news)) (off : ∀ p ∈ news, p.1 ≠ I) (hl : left ≤ 0)
    (h : ∀ h', Fr h₀ L h' m → News h₀ L h' news → R (.ok .next) { s with heap := h' }) :
    codeC (model prog w) A (.forLoop (.Name x px) (.ref I) body [] env) R s := by
  subst hL
  have nI := N (I, itR k left) (.head _)
  refine codeC_of_tree ?_
  show wpC _ _ ((forTurn (.Name x px) (.ref I) body [] env).onRaise (fun x => do noteFrame x env; theTreesLotGoes x)) _ _ s
  refine wpC_onRaise_no ?_
  simp only [forTurn]
  refine wpC_standAt (wpC_then (wpAny_onRaise (wpAny_pyNext_range_end hh (nI.1 : IsRangeIter s.heap I k left 1) hl fun h' he => ?_)))
  dsimp only
  refine wpC_pure ⟨rfl, codeOf (codeAny_block (wpAny_execs_nil (h h' ?_ ?_)))⟩
  · exact ⟨F.ns.at' fun o e => he _ o nI.2.1.symm e, fun b o e => he b o (fun z => by rw [z, nI.2.2] at e; cases e) (F.keep b o e), F.above⟩
  · exact fun p hp => ⟨he _ _ (off p hp) (N p (.tail _ hp)).1, (N p (.tail _ hp)).2⟩

theorem wpC_Try {body : List Stmt} {h₁ : ExceptHandler} {hs : List ExceptHandler} {pos : Pos} {Q : Flow → Shared → Prop}
    (h : wpC (model prog w) A (execs body env) Q
      (fun e s₁ => wpAny (model prog w) A (noteFrame e env) (fun _ s₂ => wpAny (model prog w) A (setFlight e none) (fun _ s₃ => wpAny (model prog w) A (handleBy e env (h₁ :: hs)) Q E s₃) E s₂) E s₁) s) :
    wpC (model prog w) A (exec (.Try body (h₁ :: hs) [] [] pos) env) Q E s := by
  rw [arm_exec_Try]
  refine wpC_standAt ?_
  unfold tryStmt
  simp only [List.isEmpty_nil, if_true, List.isEmpty_cons, Bool.false_and, Bool.false_eq_true, if_false]
  refine wpC_bind (wpC_attempt (wpC_mono h (fun f s₁ h₁ => ?_) fun e s₁ h₁ => ?_))
  · cases f <;> first | exact wpC_pure h₁ | exact cOf (wpAny_execs_nil h₁)
  · exact wpC_then (wpAny_mono h₁ (fun _ _ h₂ => wpC_then (wpAny_mono h₂ (fun _ _ h₃ => cOf h₃) fun _ _ x => x)) fun _ _ x => x)

theorem wpC_If {test : PySem.Expr} {body orelse : List Stmt} {pos : Pos} {Q : Flow → Shared → Prop}
    (h : wpAny (model prog w) A (isTrue test env (eval test env)) (fun b s₂ => if b then wpC (model prog w) A (execs body env) Q E s₂ else wpC (model prog w) A (execs orelse env) Q E s₂) E s) :
    wpC (model prog w) A (exec (.If test body orelse pos) env) Q E s := by
  rw [exec_If]
  refine wpC_standAt (wpC_then (wpAny_mono h (fun b s₂ h₂ => ?_) fun _ _ x => x))
  cases b <;> exact h₂

theorem wpC_Expr {e : PySem.Expr} {pos : Pos} {Q : Flow → Shared → Prop} (h : wpC (model prog w) A (eval e env) (fun _ _ => False) E s)
    (hi : interactive env = false := by rfl) (hs : swapsWith e none pos.line env = pure false := by rfl) : wpC (model prog w) A (exec (.Expr e pos) env) Q E s := by
  rw [exec_Expr env e pos hi hs]
  exact wpC_standAt (wpC_first h)

theorem wpC_Call_Name {id : Str} {p pos : Pos} {args : List PySem.Expr} {Q : Value → Shared → Prop}
    (h : wpAny (model prog w) A (eval (.Name id p) env) (fun f s₁ => wpC (model prog w) A (callWith pos f [] (backTo pos (starEach args env)) []) Q E s₁) E s) :
    wpC (model prog w) A (eval (.Call (.Name id p) args [] pos) env) Q E s := by
  rw [arm_eval_Call_Name']
  exact wpC_then h

theorem wpC_Call_Attr {o : PySem.Expr} {name : Str} {apos pos : Pos} {args : List PySem.Expr} {pl : Sem Bool} {Q : Value → Shared → Prop}
    (h : wpAny (model prog w) A (eval o env) (fun ov s₁ => wpAny (model prog w) A (getMethod ov name pl) (fun fx s₂ => wpC (model prog w) A (callWith pos fx.1 fx.2 (backTo pos (starEach args env)) []) Q E s₂) E s₁) E s)
    (he : eval (.Call (.Attribute o name apos) args [] pos) env = (do
      let ov ← eval o env
      standAt apos.atName
      let (f, first) ← holding [ov] (getMethod ov name pl)
      callWith pos f first (backTo pos (starEach args env)) []) := by rfl) :
    wpC (model prog w) A (eval (.Call (.Attribute o name apos) args [] pos) env) Q E s := by
  rw [he]
  exact wpC_then (wpAny_mono h (fun ov s₁ h₁ => wpC_standAt (wpC_then (wpAny_holding h₁))) fun _ _ x => x)

theorem wpC_callWith {P : Heap → Prop} {pos : Pos} {f : Value} {first : List Value} {args : List (Bool × Sem Value)} {Q : Value → Shared → Prop} (hplain : (args.any (·.1) || ([] : List (Option Str × Sem Value)).any (·.1.isNone)) = false)
    (hk : ∀ h, P h → ∃ k, (k = Keeper.frame ∨ k = Keeper.machine ∨ k = Keeper.boundFrame) ∧ Looks (model prog w) h (keeperOf f) k)
    (h : wpAny (model prog w) A (evalArgs f true args []) (fun a s₁ => P s₁.heap ∧ wpC (model prog w) A (call f (first ++ a.pos) a.kw) (fun _ _ => False) E s₁) E s) : wpC (model prog w) A (callWith pos f first args []) Q E s := by
  unfold callWith
  refine wpC_then (wpAny_holding (wpAny_mono h (fun a s₁ h₁ => wpC_standAt ?_) fun _ _ x => x))
  obtain ⟨k, hk', L⟩ := hk _ h₁.1
  simp only [hplain]
  refine wpC_then (L.here ?_)
  have marked (mk : Value) : wpC (model prog w) A (callMarked mk f (first ++ a.pos) a.kw) (fun _ _ => False) E s₁ := by unfold callMarked; exact wpC_keep h₁.2
  rcases hk' with rfl | rfl | rfl <;> dsimp only <;> first | exact wpC_first h₁.2 | (split <;> first | exact wpC_first h₁.2 | exact wpC_first (marked _))
/-- the call's own argument raises -/
theorem wpC_callWith_arg {pos : Pos} {f : Value} {first : List Value} {t : Sem Value} {rest : List (Bool × Sem Value)} {Q : Value → Shared → Prop}
    (h : wpC (model prog w) A t (fun _ _ => False) E s) : wpC (model prog w) A (callWith pos f first ((false, t) :: rest) []) Q E s := by
  unfold callWith
  refine wpC_first (wpC_holding ?_)
  unfold evalArgs
  show wpC (model prog w) A (spliced ((false, t) :: rest) >>= _) _ _ _
  refine wpC_first ?_
  unfold spliced
  exact wpC_first h
theorem wpC_Return {e : PySem.Expr} {pos : Pos} {Q : Flow → Shared → Prop} (h : wpC (model prog w) A (eval e env) (fun _ _ => False) E s) : wpC (model prog w) A (exec (.Return (some e) pos) env) Q E s := by
  show wpC _ _ (standAt pos >>= fun _ => (eval e env >>= fun v => pure (Flow.ret v))) _ _ _
  exact wpC_standAt (wpC_first h)
theorem wpC_Assign {targets : List PySem.Expr} {value : PySem.Expr} {pos : Pos} {Q : Flow → Shared → Prop} (h : wpC (model prog w) A (eval value env) (fun _ _ => False) E s) (hs : swapsWithSole targets value pos.line env = pure false := by rfl) :
    wpC (model prog w) A (exec (.Assign targets value pos) env) Q E s := by
  show wpC _ _ (standAt pos >>= fun _ => (swapsWithSole targets value pos.line env >>= fun b => if b = true then _ else (eval value env >>= fun v => _))) _ _ _
  refine wpC_standAt (wpC_then (wpAny_of_eq hs ?_))
  exact wpC_first h
end
end Mine

end
section
open PySem PySem.W PySem.Calls PySem.NumText PyProof.Rows
namespace Mine
open Sem (wp)
section
variable {M : Model} {A : Around} {E : Value → Shared → Prop} {s : Shared}
theorem wpC_stack {Q : List (Code × Pos) → Shared → Prop} (h : ∀ st : List (Code × Pos), (st.any fun x => x.1.isCaller) = true → Q st s) : wpC M A stack Q E s := fun Γ p hΓ hc => by
  show wp M Γ (.stack .pure) _ _ _ _
  rw [Sem.wp_stack]
  refine h _ ?_
  rw [List.any_cons]
  rcases hc with hc | hc
  · rw [show (Γ.below.any fun x => x.1.isCaller) = true from hc, Bool.or_true]
  · rw [hc, Bool.true_or]
/-- below the caller nothing is marked -/
theorem wpC_mark {own : List String} {e : Value} {Q : Unit → Shared → Prop} (h : Q () s) : wpC M A (markTheRefusal own e) Q E s := by
  unfold markTheRefusal
  refine wpC_bind (wpC_stack fun st hst => ?_)
  have hf : pythonCodeMadeTheCall own (st.map (·.1)) = false := by
    have e : ((st.map (·.1)).any fun c => c.isCaller) = true := by rw [List.any_map]; exact hst
    show (!((st.map (·.1)).any fun c => c.isCaller) && _ && _) = false
    rw [e]; rfl
  simp only [hf, Bool.false_eq_true, if_false]
  exact wpC_pure h
end
/-- a text that int refuses -/
structure BadNum (x : PySem.Str) : Prop where
  none : PySem.intText? x = none
  len : x.length ≤ 640
  small : ∀ c ∈ x.cps.toList, c < 16 ^ 8
section
variable {prog : Program} {w : World} {A : Around} {E : Value → Shared → Prop} {s : Shared}
theorem wpC_newRefusal {msg : PySem.Str} {own : List String} {α : Type} {Q : α → Shared → Prop} (hl : msg.length ≤ sizeLine) (hh : A.handled = none)
    (h : ∀ h' tk e, Heap.NewExc s.heap h' e "ValueError" → E (.ref e) { s with heap := h', toks := tk }) :
    wpC (model prog w) A (do let refusal ← newExc (.type "ValueError") [← mkStr msg]; markTheRefusal own refusal; raiseNew refusal : Sem α) Q E s := by
  refine wpC_then (wpAny_mkStr ?_ hl)
  refine wpC_then (wpAny_newExc_plain plainExc_ValueError (fun h' e hm => ?_) (by show 1 ≤ sizeLine; rw [sizeLine_eq]; decide))
  refine wpC_bind (wpC_mark ?_)
  exact cOf (wpAny_raiseNew_none hh (h _ _ _ hm.newExc))
theorem wpC_ite_true {α : Type} {M : Model} {c : Prop} [Decidable c] {a b : Sem α} {Q : α → Shared → Prop} (hc : c) (h : wpC M A a Q E s) : wpC M A (if c then a else b) Q E s := by rw [if_pos hc]; exact h
theorem wpC_ite_false {α : Type} {M : Model} {c : Prop} [Decidable c] {a b : Sem α} {Q : α → Shared → Prop} (hc : ¬ c) (h : wpC M A b Q E s) : wpC M A (if c then a else b) Q E s := by rw [if_neg hc]; exact h
theorem cut_len (x : PySem.Str) (n : Nat) : (⟨x.cps.extract 0 n⟩ : PySem.Str).length ≤ n := by
  show (x.cps.extract 0 n).size ≤ n
  rw [Array.size_extract]; omega
set_option maxRecDepth 100000 in
theorem wpC_badText {x : PySem.Str} {u : Tok} {text : List Nat} {Q : Value → Shared → Prop} (hb : BadNum x) (hs : (text.takeWhile (· != 0)).length ≤ 640)
    (hr : (int_private% "readNumeral") 0 10 (text.takeWhile (· != 0)) = (int_private% "Numeral.invalid") ∨ ∃ i, (int_private% "readNumeral") 0 10 (text.takeWhile (· != 0)) = (int_private% "Numeral.value") i ∧ ¬ ((text.takeWhile (· != 0)).length == text.length) = true) (hh : A.handled = none)
    (h : ∀ h' tk e, Heap.NewExc s.heap h' e "ValueError" → E (.ref e) { s with heap := h', toks := tk }) :
    wpC (model prog w) A ((int_private% "intFromText") (.str x u) text 10) Q E s := by
  have hl : (reprText x).length ≤ 6402 := Nat.le_trans (StrLaws.reprText_len x hb.small) (by have := hb.len; omega)
  with_unfolding_all refine wpC_ite_true hs ?_
  refine wpC_then (wpAny_pure ?_)
  have fin : wpC (model prog w) A (do
      rule "int.__new__.invalid-literal"
      let shown ← pyRepr (.str x u)
      let refusal ← newExc (.type "ValueError") [← mkStr (Str.ofString (toString "invalid literal for int() with base " ++ toString 10 ++ toString ": ") ++ ⟨shown.cps.extract 0 200⟩)]
      markTheRefusal ["int.__new__"] refusal
      raiseNew refusal : Sem Value) Q E s := by
    refine wpC_then (wpAny_rule (wpC_then (wpAny_pyRepr_str ?_ (by rw [sizeLine_eq]; omega))))
    refine wpC_newRefusal ?_ hh h
    rw [PySem.Str.length_append, sizeLine_eq]
    have h1 := cut_len (reprText x) 200
    have h2 : (Str.ofString (toString "invalid literal for int() with base " ++ toString 10 ++ toString ": ")).length = 40 := by decide +kernel
    omega
  rcases hr with hr | ⟨i, hr, hne⟩
  · simp only [hr]
    refine wpC_then (wpAny_pure ?_)
    refine wpC_ite_false (by simp) ?_
    exact fin
  · simp only [hr]
    refine wpC_ite_false hne ?_
    exact fin
theorem ty_int : isType (.type "int") = pure true := rfl
theorem ty_str (x : PySem.Str) (u : Tok) : typeOf (.str x u) = pure (.type "str") := rfl
theorem sp_int (x : PySem.Str) (u : Tok) : specialOf (.str x u) "__int__" = pure none := by
  unfold specialOf
  rw [ty_str, pure_bind]
  exact KIN.str_int
theorem sp_idx (x : PySem.Str) (u : Tok) : specialOf (.str x u) "__index__" = pure none := by
  unfold specialOf
  rw [ty_str, pure_bind]
  exact KIN.str_idx
theorem sp_trunc (x : PySem.Str) (u : Tok) : specialOf (.str x u) "__trunc__" = pure none := by
  unfold specialOf
  rw [ty_str, pure_bind]
  exact KIN.str_trunc
theorem csp_int (x : PySem.Str) (u : Tok) : callSpecial? (.str x u) "__int__" = pure none := by
  unfold callSpecial?
  rw [sp_int, pure_bind]
theorem num_text (x : PySem.Str) (u : Tok) : (int_private% "numeralText?") (.str x u) = pure (some (numTextOf x)) := rfl
theorem bad_read {x : PySem.Str} (hb : BadNum x) : ((numTextOf x).takeWhile (· != 0)).length ≤ 640 ∧ ((int_private% "readNumeral") 0 10 ((numTextOf x).takeWhile (· != 0)) = (int_private% "Numeral.invalid") ∨ ∃ i, (int_private% "readNumeral") 0 10 ((numTextOf x).takeWhile (· != 0)) = (int_private% "Numeral.value") i ∧ ¬ (((numTextOf x).takeWhile (· != 0)).length == (numTextOf x).length) = true) := by
  have hs : (numSeenOf x).length ≤ 640 := Nat.le_trans (seen_length x) hb.len
  refine ⟨hs, ?_⟩
  rcases read0 x hs with ⟨n, h1, _⟩ | ⟨_, h⟩
  · rw [hb.none] at h1; cases h1
  · exact h
set_option maxRecDepth 100000 in
theorem wpC_intNew {x : PySem.Str} {u : Tok} {Q : PySem.Fin → Shared → Prop} (hb : BadNum x) (hh : A.handled = none)
    (h : ∀ h' tk e, Heap.NewExc s.heap h' e "ValueError" → E (.ref e) { s with heap := h', toks := tk }) : wpC (model prog w) A (Builtin.«int.__new__» ⟨[.type "int", .str x u], []⟩) Q E s := by
  unfold Builtin.«int.__new__»
  dsimp only
  refine wpC_then (wpAny_of_eq ty_int ?_)
  refine wpC_ite_false (by decide) ?_
  refine wpC_then (wpAny_of_eq F.conv_sub_int ?_)
  refine wpC_ite_false (by decide) ?_
  refine wpC_then (wpAny_of_eq F.madeHere_int ?_)
  refine wpC_ite_false (by simp) ?_
  refine wpC_ite_false (by simp) ?_
  refine wpC_then (wpAny_of_eq List.forIn_nil ?_)
  show wpC _ _ ((int_private% "intFromObject") (.str x u) >>= _) _ _ _
  refine wpC_first ?_
  show wpC _ _ (callSpecial? (.str x u) "__int__" >>= _) _ _ _
  refine wpC_then (wpAny_of_eq (csp_int x u) ?_)
  show wpC _ _ (specialOf (.str x u) "__index__" >>= _) _ _ _
  refine wpC_then (wpAny_of_eq (sp_idx x u) ?_)
  refine wpC_ite_false (by simp) ?_
  refine wpC_then (wpAny_of_eq (sp_trunc x u) ?_)
  dsimp only
  refine wpC_then (wpAny_of_eq (num_text x u) ?_)
  dsimp only
  exact wpC_badText hb (bad_read hb).1 (bad_read hb).2 hh h

theorem codeC_builtin {id : String} {args : Args} {b : Builtin} {R : Result → Shared → Prop} (hb : entryFor table id = some b)
    (h : wpC (model prog w) (A.under (.builtin id args)) (b args)
      (fun fin s' => match fin with | .done f => R (.ok f) s' | .again c' => c'.quiet = true ∧ codeC (model prog w) A c' R s') (fun e s' => R (.error e) s') s) :
    codeC (model prog w) A (.builtin id args) R s := by
  refine codeC_of_tree ?_
  show wpC _ _ (match entryFor table id with | some b => b args | none => unsupported ((withoutEnding? id "#data").getD id)) _ _ s
  rw [hb]; exact h
theorem codeC_call_builtin_at {id : String} {args : Args} {b : Builtin} {R : Result → Shared → Prop} (hq : (Code.builtin id args).quiet = true) (hb : entryFor table id = some b)
    (h : wpAny (model prog w) A.in1 (checkBuiltinCall id args) (fun _ s₁ => wpC (model prog w) (A.under (.builtin id args)) (b args)
      (fun fin s' => match fin with | .done f => R (.ok f) s' | .again c' => c'.quiet = true ∧ codeC (model prog w) A c' R s') (fun e s' => R (.error e) s') s₁)
      (fun e s' => R (.error e) s') s) : codeC (model prog w) A (.call (.builtin id) args) R s := by
  refine codeC_of_tree ?_
  show wpC _ A.in1 (do checkBuiltinCall id args; again (.builtin id args)) _ _ s
  exact wpC_then (wpAny_mono h (fun _ s₁ h₁ => wpC_pure (And.intro hq (codeC_builtin hb h₁))) fun _ _ h' => h')
set_option maxRecDepth 100000 in
/-- int of a text that it refuses -/
theorem wpC_int_bad {x : PySem.Str} {u : Tok} {Q : Value → Shared → Prop} (hb : BadNum x) (hh : A.handled = none)
    (h : ∀ h' tk e, Heap.NewExc s.heap h' e "ValueError" → E (.ref e) { s with heap := h', toks := tk }) :
    wpC (model prog w) A (call (.type "int") [.str x u]) Q E s := by
  refine wpC_call (codeC_of_tree ?_)
  show wpC _ _ (callAny (.type "int") _) _ _ _
  refine cOf (wpAny_pure ⟨Code.quiet_builtin _ (by decide +kernel), codeC_builtin F.entry_type_call ?_⟩)
  rw [Around.under_plain (weight_type_call_type "int" [.str x u] []) (units_type_call_type "int" [.str x u] [])]
  unfold Builtin.«type.__call__»
  dsimp only
  refine wpC_ite_false (by decide) ?_
  refine wpC_ite_false (by rw [F.called_int.canCreate]; decide) ?_
  refine wpC_then (wpAny_of_eq (F.typeCall_int_1 _) ?_)
  refine wpC_then (wpAny_of_eq F.mro_int ?_)
  refine wpC_ite_false (by decide) ?_
  refine wpC_then (wpAny_of_eq F.called_int.made ?_)
  dsimp only
  refine wpC_then (wpAny_pure ?_)
  refine wpC_first (wpC_holding (wpC_call ?_))
  refine codeC_call_builtin_at (plainId_quiet F.called_int.plain _) F.entry_int_new (wpAny_of_eq (F.newCall_int_1 _) ?_)
  rw [Around.under_plainId F.called_int.plain]
  exact wpC_intNew hb hh h
end
end Mine

end
section
open PySem PySem.W PySem.Calls PySem.NumText PyProof.Rows
namespace Mine
theorem drop_end {a : Nat} {p : Nat → Bool} (ha : p a = false) : ∀ m : List Nat, ∃ m', (m ++ [a]).dropWhile p = m' ++ [a]
  | [] => ⟨[], by simp [ha]⟩
  | b :: m => by
    by_cases hb : p b = true
    · obtain ⟨m', e⟩ := drop_end ha m
      exact ⟨m', by rw [List.cons_append, List.dropWhile_cons_of_pos hb, e]⟩
    · exact ⟨b :: m, by rw [List.cons_append, List.dropWhile_cons_of_neg hb]⟩
theorem core_x (t : List Nat) : ∃ r, core (120 :: t) = 120 :: r := by
  unfold core
  have e1 : (120 :: t).dropWhile blank = 120 :: t := by rw [List.dropWhile_cons_of_neg (by decide)]
  rw [e1]
  show ∃ r, (((120 :: t).reverse.dropWhile blank).reverse) = 120 :: r
  rw [List.reverse_cons]
  obtain ⟨m', e⟩ := drop_end (a := 120) (p := blank) (by decide) t.reverse
  rw [e]
  exact ⟨m'.reverse, by simp⟩
theorem digits_x (r : List Nat) : digits? 10 (120 :: r) = none := by
  unfold digits?
  rw [List.foldlM_cons]
  rfl
theorem text_x {x : PySem.Str} {t : List Nat} (h : x.cps.toList = 120 :: t) : PySem.intText? x = none := by
  have h1 : ∃ t', numTextOf x = 120 :: t' := by
    show ∃ t', (if x.cps.all (· < 128) then x.cps.toList else Unicode.numberText x.cps.toList) = 120 :: t'
    split
    · exact ⟨t, h⟩
    · rw [h]
      exact ⟨Unicode.numberText t, by rw [Unicode.numberText, if_pos (by decide)]⟩
  obtain ⟨t', e⟩ := h1
  have h2 : ∃ t'', numSeenOf x = 120 :: t'' := by
    show ∃ t'', (numTextOf x).takeWhile (· != 0) = 120 :: t''
    rw [e]
    exact ⟨t'.takeWhile (· != 0), by rw [List.takeWhile_cons_of_pos (by decide)]⟩
  obtain ⟨t'', e2⟩ := h2
  obtain ⟨r, e3⟩ := core_x t''
  unfold PySem.intText?
  rw [e2, e3, digits_x]
  split <;> rfl
theorem small_of (a : String) : ∀ c ∈ (Str.ofString a).cps.toList, c < 16 ^ 8 := by
  intro c hc
  rw [signs_ofString] at hc
  obtain ⟨ch, _, rfl⟩ := List.mem_map.mp hc
  exact ch.val.toNat_lt
theorem bad_x {n : Int} (hb : Bd n) : BadNum (Str.ofString "x" ++ Str.ofString (toString n)) where
  none := text_x (t := (Str.ofString (toString n)).cps.toList) (by show ((Str.ofString "x").cps ++ (Str.ofString (toString n)).cps).toList = _; rw [Array.toList_append, signs_ofString "x"]; rfl)
  len := by
    have h1 := bd_len hb
    have h2 : (Str.ofString "x").length = 1 := by decide
    rw [PySem.Str.length_append]; omega
  small := by
    intro c hc
    have e : (Str.ofString "x" ++ Str.ofString (toString n)).cps.toList = (Str.ofString "x").cps.toList ++ (Str.ofString (toString n)).cps.toList := by
      show ((Str.ofString "x").cps ++ (Str.ofString (toString n)).cps).toList = _
      rw [Array.toList_append]
    rw [e] at hc
    rcases List.mem_append.mp hc with h | h
    · exact small_of _ c h
    · exact small_of _ c h
theorem bad_55 : BadNum (Str.ofString "5 5") where
  none := by decide +kernel
  len := by decide
  small := small_of _
end Mine

end
section
open PySem PySem.W PySem.Calls PyProof.Rows
namespace Mine
section
variable {prog : Program} {w : World} {A : Around} {s : Shared} {base h₀ : Heap} {m : Str → Option Value} {news : List (Addr × Obj)} {L : Addr} {k : Nat}
theorem codeC_call_def {R : Result → Shared → Prop} {a : Addr} {o : Obj} {fd : FuncData} {body : List Stmt} {args : Args} {binds : List (Str × Value)}
    (hroom : A.depth < recursionLimit) (ho : s.heap.get? a = some o) (hdata : o.data = .func fd) (hlim : s.heap.NoLimit) (hcd : s.heap.CodeRec fd.code fd.qualname)
    (hbody : fd.body = .stmts body) (hbind : BindsTo s fd args binds)
    (hcell : ∀ x ∈ fd.scope.names, x.2 ≠ .cell) (hloc : ∀ x ∈ binds, fd.scope.names.lookup x.1 = some .local)
    (h : ∀ h₀, h₀.Ns s.heap.objs.size (fun x => binds.reverse.lookup x) → (∀ b o, s.heap.get? b = some o → h₀.get? b = some o) →
      wpC (model prog w) (A.deeper (callEnv fd s.heap.objs.size a)) (execs body (callEnv fd s.heap.objs.size a)) (fun _ _ => False)
        (fun e s' => wpAny (model prog w) (A.deeper (callEnv fd s.heap.objs.size a)) (leaving (callEnv fd s.heap.objs.size a) e) (fun _ s'' => R (.error e) s'') (fun e' s'' => R (.error e') s'') s')
        { s with heap := h₀, toks := s.toks + binds.length })
    (hco : fd.scope.isCoroutine = false := by rfl) (hgen : fd.scope.isGenerator = false := by rfl) (hk : fd.scope.kind = .function := by rfl) :
    codeC (model prog w) A (.call (.ref a) args) R s := by
  refine codeC_call_function hroom ho hdata hco hgen hbody hcd (hbind _ _ _ _ ?_)
  refine wpAny_newFunctionEnv hcell hloc (fun h₀ hns₀ hsb₀ => ⟨hlim.fresh _ hsb₀, codeC_func (wpC_mono (h h₀ hns₀ fun b o e => ?_) (fun _ _ x => x.elim) fun _ _ x => cOf x)⟩) hk
  exact hsb₀.extBut b o (Nat.ne_of_lt (Heap.lt_size e)) (Heap.get?_push_of_some _ e)
/-- a def of the text is called, and raises -/
theorem code_C {env : Env} {outer : List Env} {R : Result → Shared → Prop} {name qual : Str} {params : Arguments} {body : List Stmt} {scope : Scope} {dV kV doc pm cdv ct oc : Value} {an od : Option Addr} {osl : Array (Option Value)} {f : Addr} {args : Args} {binds : List (Str × Value)}
    (c : Cx (k + 1) w A base h₀ env outer L m news s.heap)
    (ho : (hd.heap_39 w.params).lookup f = some ⟨oc, od, .func (fnOf name qual params body scope dV kV doc pm an cdv ct), osl⟩) (hcd : codeIn (hd.heap_39 w.params) cdv qual = true)
    (hbind : BindsTo s (fnOf name qual params body scope dV kV doc pm an cdv ct) args binds) (hloc : ∀ y ∈ binds, scope.names.lookup y.1 = some .local)
    (hco : scope.isCoroutine = false) (hgen : scope.isGenerator = false) (hk : scope.kind = .function) (hcell : ∀ x ∈ scope.names, x.2 ≠ .cell)
    (h : ∀ g L' h₁ p loose mean mg mb, Fr h₀ L g m → Fr g L' h₁ (fun y => binds.reverse.lookup y) → News g L' h₁ news → Below A base (env :: outer) g → (hd.heap_39 w.params).In g → Top p loose mean mg mb g →
      wpC (model prog w) (A.deeper (envOf qual scope L' f cdv)) (execs body (envOf qual scope L' f cdv)) (fun _ _ => False)
        (fun e s' => wpAny (model prog w) (A.deeper (envOf qual scope L' f cdv)) (leaving (envOf qual scope L' f cdv) e) (fun _ s'' => R (.error e) s'') (fun e' s'' => R (.error e') s'') s')
        { s with heap := h₁, toks := s.toks + binds.length }) : codeC (model prog w) A (.call (.ref f) args) R s := by
  obtain ⟨A₀, B⟩ := c.B
  obtain ⟨p, loose, mean, mg, mb, T⟩ := c.T
  have hroom : A.depth < recursionLimit := by have := c.room; show A.depth < 1000; omega
  obtain ⟨FG, BG, st, _⟩ := groundX (R := R) B c.F c.N c.hA c.hf c.hk
  refine codeC_call_def (fd := fnX name qual params body scope [] dV kV doc pm an cdv ct) (body := body) (binds := binds) hroom ((c.X.keeps c.F.keep) _ _ ho) rfl (T.nolimit.keeps c.F.keep) (codeRec_of (c.X.keeps c.F.keep) hcd) rfl hbind hcell hloc (fun h₁ hns hk₁ => ?_) hco hgen hk
  exact h _ s.heap.objs.size h₁ p loose mean mg mb FG ⟨hns, fun b o e => hk₁ b o (of_hideAll _ e), Nat.le_of_eq (hideAll_size _ _)⟩
    (fun p hp => ⟨hk₁ _ _ (c.N p hp).1, Nat.ne_of_lt (Heap.lt_size (c.N p hp).1), hideAll_none _ (List.mem_map_of_mem hp)⟩) BG (c.X.keeps st) (T.keeps st)
end
end Mine

end
section
open PySem PySem.W PySem.Calls PyProof.Rows
namespace Mine
section
variable {prog : Program} {w : World} {A : Around} {K : Frag} {C : Addr} {R : Result → Shared → Prop} {h : Heap} {g : Array GenState} {d : Drawn} {t : Nat} {os : OsState}
def ErrOnly (R : Result → Shared → Prop) (r : Result) (s' : Shared) : Prop := match r with
  | .error e => R (.error e) s'
  | .ok _ => False
/-- a class is called, and its __init__ raises -/
theorem make_C {rest : List Value} {kw : List (Str × Value)} {init : Value} (Y : Makes (model prog w) h C) (hi : Looks (model prog w) h (typeLookup (.ref C) "__init__") (some init))
    (hb : ∀ self, Looks (model prog w) h (bindSpecial init self) (init, [self])) (hne : (some init != some (Value.builtin "object.__init__")) = true ∨ (rest = [] ∧ kw = []))
    (hq : codeC (model prog w) (A.under (.builtin "type.__call__" ⟨.ref C :: rest, kw⟩)) (.call init ⟨.ref (h.objs.size + 1) :: rest, kw⟩) (ErrOnly R) ⟨(h.push emptyDict).push (instObj C h.objs.size), g, d, t, os⟩) :
    codeC (model prog w) A (.call (.ref C) ⟨rest, kw⟩) R ⟨h, g, d, t, os⟩ := by
  have Y' := Y
  obtain ⟨⟨oc, od, cd, sl, hC, e1, e2, e4⟩, made, base, self, top, call, typ⟩ := Y
  refine codeC_of_tree ?_
  show wpC _ _ (callAny (.ref C) _) _ _ _
  refine cOf (nd_load hC ?_)
  show wpAny _ _ (callAny.viaDunder (.ref C) _) _ _ _
  unfold callAny.viaDunder
  refine wpAny_bind (call.at ?_)
  dsimp only
  rw [tc_bind]
  refine wpAny_bind (wpAny_pure (wpAny_bind (wpAny_pure ?_)))
  refine wpAny_pure (a := Fin.again (.call (.builtin "type.__call__") ⟨.ref C :: rest, kw⟩)) (And.intro rfl ?_)
  refine codeC_call_builtin_at (Code.quiet_builtin _ (by decide +kernel)) entry_typeCall (check_slot tc_kind tc_split typ (tc_args _ _ _) ?_)
  unfold Builtin.«type.__call__»
  have hm : Looks (model prog w) h (mroOf (.ref C)) cd.mro := ((Looks.ld (part := none) hC).andThen .now).andThen .now
  dsimp only
  refine wpC_ite_false Bool.false_ne_true ?_
  refine wpC_then (hm.here ?_)
  refine wpC_ite_false (by rw [e4]; exact Bool.false_ne_true) ?_
  refine wpC_then (made.here ?_)
  dsimp only
  refine wpC_then (wpAny_pure ?_)
  have k : ∀ b o, h.get? b = some o → ((h.push emptyDict).push (instObj C h.objs.size)).get? b = some o := fun b o e => Heap.get?_push_of_some _ (Heap.get?_push_of_some _ e)
  have hx : ((h.push emptyDict).push (instObj C h.objs.size)).get? (h.objs.size + 1) = some (instObj C h.objs.size) := by heap_get
  have t1 : Looks (model prog w) ((h.push emptyDict).push (instObj C h.objs.size)) (typeOf (.ref (h.objs.size + 1))) (.ref C) := (Looks.ld hx).andThen .now
  have s1 := self.keeps k
  have i1 := hi.keeps k
  have b1 := (hb (.ref (h.objs.size + 1))).keeps k
  refine wpC_then (wpAny_holding (wpAny_call (new_K Y' hi hne ?_)))
  unfold isInstance
  refine wpC_bind (wpC_then (t1.here (cOf (s1.here ?_))))
  refine wpC_ite_false (by simp) ?_
  refine wpC_first (wpC_holding ?_)
  unfold callSpecial? specialOf
  refine wpC_bind (wpC_then (t1.here (cOf (i1.here ?_))))
  dsimp only
  refine wpC_holding (wpC_then (b1.here ?_))
  dsimp only
  refine wpC_first (wpC_call (codeC_mono hq fun r s' z => ?_))
  cases r with
  | error e => exact z
  | ok f => exact z.elim
theorem make_KC {s : Shared} {h₀ : Heap} {L : Addr} {m : Str → Option Value} {news : List (Addr × Obj)} {rest : List Value} {kw : List (Str × Value)} {fI : Addr} (F : Fr h₀ L s.heap m) (N : News h₀ L s.heap news) (X : K.In s.heap) (hm : makesIn K C = true)
    (hi : findIn K (.ref C) "__init__" = some (some (.ref fI))) (hf : typeIn K (.ref fI) = some (.type "function"))
    (h : ∀ x dx h', Fr h₀ L h' m → News h₀ L h' ((x, instObj C dx) :: (dx, emptyDict) :: news) → (∀ p ∈ news, p.1 < dx) → dx < x →
      codeC (model prog w) (A.under (.builtin "type.__call__" ⟨.ref C :: rest, kw⟩)) (.call (.ref fI) ⟨.ref x :: rest, kw⟩) (ErrOnly R) { s with heap := h' }) :
    codeC (model prog w) A (.call (.ref C) ⟨rest, kw⟩) R s := by
  obtain ⟨hh, g, d, t, os⟩ := s
  refine make_C (makes_of X hm) (looks_findIn X hi) (fun self => bind_fn X self hf) (.inl rfl) (h _ hh.objs.size _ ((F.push _).push _) ?_ (fun p hp => Heap.lt_size (N p hp).1) (Nat.lt_succ_self _))
  have := (N.push F emptyDict).push (F.push _) (instObj C hh.objs.size)
  rwa [Heap.size_push] at this
end
end Mine

end
section
open PySem PySem.W PySem.Calls PyProof.Rows
namespace Mine
/-- an exception has left a callee's frame: what the caller knows -/
structure Flown (base h₀ : Heap) (L : Addr) (m : Str → Option Value) (l : List Env) (e : Addr) (cls : String) (news : List (Addr × Obj)) (h' : Heap) : Prop where
  out : ∃ g, Fr h₀ L g m ∧ g.UpToSlots h' ∧ RaisedN base l e (.type cls) news h'
section
variable {prog : Program} {w : World} {A : Around} {E : Value → Shared → Prop} {s : Shared} {env : Env} {pos : Pos} {f : Value} {first : List Value}
theorem wpC_callWith1 {P : Heap → Prop} {Q : Value → Shared → Prop} {e : PySem.Expr} {rest : List PySem.Expr} (hk : ∀ h, P h → ∃ k, (k = Keeper.frame ∨ k = Keeper.machine ∨ k = Keeper.boundFrame) ∧ Looks (model prog w) h (keeperOf f) k)
    (h : wpAny (model prog w) A (spliced (backTo pos (starEach (e :: rest) env))) (fun vs s₁ => P s₁.heap ∧ wpC (model prog w) A (call f (first ++ vs)) (fun _ _ => False) E s₁) E s)
    (he : starEach (e :: rest) env = (false, eval e env) :: starEach rest env := by rfl) (hplain : (backTo pos (starEach rest env)).any (·.1) = false := by rfl) :
    wpC (model prog w) A (callWith pos f first (backTo pos (starEach (e :: rest) env)) []) Q E s := by
  rw [he] at h ⊢
  exact wpC_callWith (by show ((false || (backTo pos (starEach rest env)).any (·.1)) || false) = false; rw [hplain]; rfl) hk (evalArgs_plain h)
theorem wpC_callWith_arg1 {Q : Value → Shared → Prop} {e : PySem.Expr} (h : wpC (model prog w) A (eval e env) (fun _ _ => False) E s) (he : starEach [e] env = [(false, eval e env)] := by rfl) :
    wpC (model prog w) A (callWith pos f first (backTo pos (starEach [e] env)) []) Q E s := by
  rw [he]
  exact wpC_callWith_arg h
theorem keeps_type {T : String} (h : Heap) (_ : True) : ∃ k, (k = Keeper.frame ∨ k = Keeper.machine ∨ k = Keeper.boundFrame) ∧ Looks (model prog w) h (keeperOf (.type T)) k := ⟨.machine, .inr (.inl rfl), Looks.of_pure rfl⟩
theorem meth_C {R : Result → Shared → Prop} {p : Addr} {self : Value} {pos : List Value} {kw : List (Str × Value)} (ho : s.heap.get? p = some (methodObj f self))
    (h : codeC (model prog w) A (.call f ⟨self :: pos, kw⟩) R s) : codeC (model prog w) A (.call (.ref p) ⟨pos, kw⟩) R s := by
  obtain ⟨hh, g, dr, t, os⟩ := s
  refine codeC_of_tree ?_
  show wpC _ _ (callAny (.ref p) _) _ _ _
  dsimp only at ho
  refine cOf (nd_load ho ?_)
  cases f <;> exact wpAny_pure ⟨rfl, h⟩
end
section
variable {prog : Program} {w : World} {A : Around} {s : Shared} {y C L : Addr} {h₀ base : Heap} {m : Str → Option Value} {news : List (Addr × Obj)} {env : Env} {outer : List Env} {R : Result → Shared → Prop} {k : Nat} {x : Str} {u : Tok}
set_option maxRecDepth 100000
set_option maxHeartbeats 4000000
theorem init_bad (c : Cx (k + 1) w A base h₀ env outer L m news s.heap) (hh : A.handled = none) (hb : BadNum x)
    (h : ∀ h' tk e, Flown base h₀ L m (env :: outer) e "ValueError" news h' → R (.error (.ref e)) { s with heap := h', toks := tk }) :
    codeC (model prog w) A (.call (.ref 307) ⟨[.ref y, .str x u], []⟩) R s := by
  have X₀ := c.X
  obtain ⟨_, _, _, _, _, T⟩ := c.T
  refine' code_C c ?k6 ?k7 ?k9 ?kB ?c2 ?c3 ?c4 ?c5 ?_
  case k6 => k_is
  case k7 => k_is
  case k9 => exact BindsTo.of_eq rfl
  case c5 => decide
  case kB => exact locs rfl
  case c2 => exact rfl
  case c3 => exact rfl
  case c4 => exact rfl
  k_whole
  intro g' L' h' p' l' n' mg' mb' FG' F' N' B' X' T'
  try dsimp only
  refine wpC_execs_cons (wpC_Assign (wpC_Call_Name ?_))
  k_steps
  refine wpC_callWith1 (P := fun _ => True) keeps_type ?_
  k_steps
  · exact trivial
  refine wpC_int_bad hb hh fun h'' tk e hx => ?_
  exact leave_newK B' hx F' N' fun h3 R' U' => h _ _ _ ⟨g', FG', U', R'⟩
theorem from_bad (c : Cx (k + 1) w A base h₀ env outer L m news s.heap) (hh : A.handled = none) (hb : BadNum x)
    (h : ∀ h' tk e, Flown base h₀ L m (env :: outer) e "ValueError" news h' → R (.error (.ref e)) { s with heap := h', toks := tk }) :
    codeC (model prog w) A (.call (.ref 275) ⟨[.ref 281, .str x u], []⟩) R s := by
  have X₀ := c.X
  obtain ⟨_, _, _, _, _, T⟩ := c.T
  refine' code_C c ?k6 ?k7 ?k9 ?kB ?c2 ?c3 ?c4 ?c5 ?_
  case k6 => k_is
  case k7 => k_is
  case k9 => exact BindsTo.of_eq rfl
  case c5 => decide
  case kB => exact locs rfl
  case c2 => exact rfl
  case c3 => exact rfl
  case c4 => exact rfl
  k_whole
  intro g' L' h' p' l' n' mg' mb' FG' F' N' B' X' T'
  try dsimp only
  refine wpC_execs_cons (wpC_Return (wpC_Call_Name ?_))
  k_steps
  refine wpC_callWith_arg1 (wpC_Call_Name ?_)
  k_steps
  refine wpC_callWith1 (P := fun _ => True) keeps_type ?_
  k_steps
  · exact trivial
  refine wpC_int_bad hb hh fun h'' tk e hx => ?_
  exact leave_newK B' hx F' N' fun h3 R' U' => h _ _ _ ⟨g', FG', U', R'⟩
end
end Mine

end
section
open PySem PySem.W PySem.Calls PyProof.Rows
namespace Mine
section
variable {prog : Program} {w : World} {A₀ : Around} {E : Value → Shared → Prop} {s' : Shared} {h₀ h : Heap} {outer : List Env} {L a e : Addr} {m : Str → Option Value} {env : Env}
  {n : Str} {b₀ : Stmt} {suite : List Stmt} {pos np : Pos} {rest : List ExceptHandler} {Q : Flow → Shared → Prop} {news : List (Addr × Obj)}
  {p : Program} {loose : List Str} {mean : ExcName → Option Value} {mg mb : Str → Option Value} {x : Str} {X T' : String}
/-- an exception comes to a try block of a frame of any kind -/
theorem note_C {hs : List ExceptHandler} (hf : env.frame = some L) (K : Below A₀ h₀ outer h₀) (R : RaisedN h₀ (env :: outer) e (.type X) news s'.heap) (hsm : h.UpToSlots s'.heap) (F : Fr h₀ L h m)
    (k : ∀ h₅, RaisedN h₀ (env :: outer) e (.type X) news h₅ → Fr h₀ L h₅ m → wpAny (model prog w) (A₀.deeper env) (handleBy (.ref e) env hs) Q E { s' with heap := h₅ }) :
    wpAny (model prog w) (A₀.deeper env) (noteFrame (.ref e) env)
      (fun _ s₂ => wpAny (model prog w) (A₀.deeper env) (setFlight (.ref e) none) (fun _ s₃ => wpAny (model prog w) (A₀.deeper env) (handleBy (.ref e) env hs) Q E s₃) E s₂) E s' := by
  obtain ⟨B, a0, hB, hl, hfl⟩ := R
  refine wpAny_looks_onW (Around.frames_deeper K.stack) hf hfl fun h₄ hheld₄ hsm₄ => ?_
  refine wpAny_landsW hheld₄ fun h₅ hheld hsm₅' => ?_
  exact k h₅ ⟨B, a0, hB, hl, hheld⟩ (F.of_stays (flyingW_base hB hheld).1 (hsm.trans (hsm₄.trans hsm₅')))
theorem raised_of {l : List Env} {cls : Value} {t : Addr} {vs : List Value} (R : RaisedK h₀ l e cls t vs news h) : RaisedN h₀ l e cls news h := let ⟨⟨B, hB, hl, hf, _⟩, _⟩ := R; ⟨B, .ref t, hB, hl, hf⟩
theorem handle_C {b : Bool} (hf : env.frame = some L) (hk : env.scope.kind = .function) (hgl : env.globals = mainGlobals) (hbl : env.builtins = builtinsNs) (F : Fr h₀ L s'.heap m) (R : RaisedN h₀ (env :: outer) e (.type X) news s'.heap)
    (T : TopRead p loose mg mb h₀) (hv : bootBuiltins x = some (.type T'))
    (hexc : isSubtype (.type T') (.type "BaseException") = pure true) (hnt : isSubtype (.type ((Manifest.find? T').elim "type" fun y => y.metatype)) (.type "tuple") = pure false) (hsub : isSubtype (.type X) (.type T') = pure b)
    (k : if b then (∀ h', Fr h₀ L h' m → News h₀ L h' news → wpAny (model prog w) ((A₀.deeper env).mark (some (.ref e))) (execs (b₀ :: suite) env) Q (fun _ _ => False) { s' with heap := h' }) else wpAny (model prog w) (A₀.deeper env) (handleBy (.ref e) env rest) Q (fun _ _ => False) s')
    (hx : env.kindOf x = some .globalImplicit) (h1 : x ∉ startupNames := by decide +kernel) (h2 : x ∉ loose := by decide +kernel) (h3 : x ∉ (recsOf p).map (·.name) := by decide +kernel) (h4 : x ∉ (litsOf p).map (·.1) := by decide +kernel) (h4c : x ∉ (clssOf p loose).map (·.name) := by decide +kernel) (hn : x ≠ "__name__" := by decide +kernel)
    (hd : (x == ("__debug__" : Str)) = false := by decide) :
    wpAny (model prog w) (A₀.deeper env) (handleBy (.ref e) env (.ExceptHandler (some (.Name x np)) none (b₀ :: suite) pos :: rest)) Q (fun _ _ => False) s' := by
  obtain ⟨B, a0, hB, hl, hheld⟩ := R
  have hL : B.get? L = none := by
    obtain ⟨_, ⟨L', _, hf', hn', _⟩, _⟩ := hheld.2.2.1
    obtain rfl : L = L' := Option.some.inj (hf.symm.trans hf')
    exact hn'
  have hheld' := flyingW_base hB hheld
  obtain ⟨ob, hob, hobc⟩ := hheld'.there
  refine wpAny_handleBy_builtin (X := X) (T := T') (b := b) hexc hnt hsub (Name_function_global hk hx (loadGlobal_builtin (env := env) (by rw [hgl]; exact T.g.keeps F.keep) (T.free x h1 h2 h3 h4 h4c) (by rw [hbl]; exact T.b.keeps F.keep) ((T.builtins x hn).trans hv) ⟨rfl, ⟨ob, hob, hobc⟩, ?_⟩) hd)
  cases b with
  | false => exact k
  | true =>
    refine lands_againW hheld fun h₆ hfl₆ hsm₆ => ?_
    have F₆ := F.of_stays (flyingW_base hB hfl₆).1 hsm₆
    exact wpAny_passesOwnAt PassesOwnAt.never (k h₆ F₆ fun q hq => ⟨hfl₆.1 _ _ (hl q hq).1, (fun z => by have := (hl q hq).1; rw [z, hL] at this; cases this), (hl q hq).2⟩)
/-- the part of the ledger that the last loop needs -/
theorem news_sel {x0 x1 x2 x3 x4 x5 x6 x7 x8 x9 x10 x11 x12 x13 x14 x15 : Addr × Obj} {tl : List (Addr × Obj)} (N : News h₀ L h (x0 :: x1 :: x2 :: x3 :: x4 :: x5 :: x6 :: x7 :: x8 :: x9 :: x10 :: x11 :: x12 :: x13 :: x14 :: x15 :: tl)) (l : x1.1 < x0.1 ∧ x2.1 < x0.1 ∧ x3.1 < x0.1 ∧ x4.1 < x0.1 ∧ x5.1 < x0.1 ∧ x6.1 < x0.1 ∧ x7.1 < x0.1 ∧ x8.1 < x0.1 ∧ x9.1 < x0.1 ∧ x10.1 < x0.1 ∧ x11.1 < x0.1 ∧ x12.1 < x0.1 ∧ x13.1 < x0.1 ∧ x14.1 < x0.1 ∧ x15.1 < x0.1 ∧ AllLt x0.1 tl) :
    News h₀ L h [x0, x10, x12, x13, x14, x15] ∧ (x10.1 < x0.1 ∧ x12.1 < x0.1 ∧ x13.1 < x0.1 ∧ x14.1 < x0.1 ∧ x15.1 < x0.1) := by
  obtain ⟨_, _, _, _, _, _, _, _, _, a, _, b, c, d, e, _⟩ := l
  refine ⟨fun p hp => N p ?_, a, b, c, d, e⟩
  simp only [List.mem_cons, List.not_mem_nil, or_false] at hp ⊢
  rcases hp with h | h | h | h | h | h <;> simp [h]
theorem news_lt6 {x0 x1 x2 x3 x4 x5 : Addr × Obj} (N : News h₀ L h [x0, x1, x2, x3, x4, x5]) :
    x0.1 < h.objs.size ∧ x1.1 < h.objs.size ∧ x2.1 < h.objs.size ∧ x3.1 < h.objs.size ∧ x4.1 < h.objs.size ∧ x5.1 < h.objs.size := by
  have f : ∀ p ∈ [x0, x1, x2, x3, x4, x5], p.1 < h.objs.size := fun p hp => Heap.lt_size (N p hp).1
  exact ⟨f _ (by simp), f _ (by simp), f _ (by simp), f _ (by simp), f _ (by simp), f _ (by simp)⟩
theorem raised_drop {l : List Env} {cls : Value} {a b : Addr × Obj} (R : RaisedN h₀ l e cls (a :: b :: news) h) : RaisedN h₀ l e cls news h := by
  obtain ⟨B, a0, hB, hl, hf⟩ := R
  exact ⟨B, a0, hB, fun q hq => hl q (.tail _ (.tail _ hq)), hf⟩
theorem raised_drop1 {l : List Env} {cls : Value} {a : Addr × Obj} (R : RaisedN h₀ l e cls (a :: news) h) : RaisedN h₀ l e cls news h := by
  obtain ⟨B, a0, hB, hl, hf⟩ := R
  exact ⟨B, a0, hB, fun q hq => hl q (.tail _ hq), hf⟩
theorem words_upd {I W : Addr} {oI : Obj} {x1 x2 x3 x4 x5 : Addr × Obj} {o o' : Obj} (lI : W < I) (l : x1.1 < W ∧ x2.1 < W ∧ x3.1 < W ∧ x4.1 < W ∧ x5.1 < W) :
    Upd W o o' ((I, oI) :: (W, o) :: [x1, x2, x3, x4, x5]) ((I, oI) :: (W, o') :: [x1, x2, x3, x4, x5]) := by
  refine .tail (Nat.ne_of_gt lI) (.head fun p hp => ?_)
  simp only [List.mem_cons, List.not_mem_nil, or_false] at hp
  rcases hp with h | h | h | h | h <;> subst h
  · exact Nat.ne_of_lt l.1
  · exact Nat.ne_of_lt l.2.1
  · exact Nat.ne_of_lt l.2.2.1
  · exact Nat.ne_of_lt l.2.2.2.1
  · exact Nat.ne_of_lt l.2.2.2.2
theorem append_w {A : Around} {s : Shared} {I W : Addr} {oI : Obj} {x1 x2 x3 x4 x5 : Addr × Obj} {its : Array Value} {n : Nat} {v : Value} {Q : Value → Shared → Prop} {E : Value → Shared → Prop}
    (F : Fr h₀ L s.heap m) (N : News h₀ L s.heap ((I, oI) :: (W, listOf its n) :: [x1, x2, x3, x4, x5])) (lI : W < I) (l : x1.1 < W ∧ x2.1 < W ∧ x3.1 < W ∧ x4.1 < W ∧ x5.1 < W) (hz : its.size ≤ 10)
    (k : ∀ h', Fr h₀ L h' m → News h₀ L h' ((I, oI) :: (W, listOf (its.push v) (n + 1)) :: [x1, x2, x3, x4, x5]) → Q .none { s with heap := h' }) :
    wpAny (model prog w) A (call (.builtin "list.append") [.ref W, v]) Q E s := append_K F N (words_upd lI l) k (Nat.le_trans hz (by rw [sizeLine_eq]; decide))
theorem off6 {I : Addr} {x0 x1 x2 x3 x4 x5 : Addr × Obj} (l : x0.1 < I ∧ x1.1 < I ∧ x2.1 < I ∧ x3.1 < I ∧ x4.1 < I ∧ x5.1 < I) : ∀ p ∈ [x0, x1, x2, x3, x4, x5], p.1 < I := by
  intro p hp
  simp only [List.mem_cons, List.not_mem_nil, or_false] at hp
  rcases hp with h | h | h | h | h | h <;> subst h
  · exact l.1
  · exact l.2.1
  · exact l.2.2.1
  · exact l.2.2.2.1
  · exact l.2.2.2.2.1
  · exact l.2.2.2.2.2
end
end Mine

end
/-- a goal that is left: no assumption -/
structure Mine.Left (G : Prop) : Prop where
  get : G
section
open PySem PySem.W PyProof.Rows
namespace Mine
set_option maxRecDepth 100000 in
set_option maxHeartbeats 8000000 in
noncomputable def D1 : PSigma (fun G : Prop => G → PySem.Challenge.rw_db5001_01.Holds) := by
  refine' ⟨_, ?_⟩
  rotate_left
  · intro hG
    replace hG := Left.mk hG
    refine hd ?_
    k_fill
    intro w s₀ s₁ mg mb G Y hg fa o pm cd doc dV kV atD args vals as atA
    obtain ⟨ho, hd, hcd, hD, hmg⟩ := atD
    obtain ⟨hpre, hlay, hrd, hwl, hlo⟩ := atA
    have KX := kIn_of Y
    have X := (Ground.X G).1
    have V := (Ground.X G).2
    refine Ground.open G ?_
    intro T B D TE TW
    try (refine guard_noD D (by decide +kernel) ?_; clear D)
    have TA := at_of_top T
    wrow_args hpre hlay hrd hwl hlo
    refine enter_C ?_
    have K0 := below_caller (Top.heap T)
    have he := Dflts.none hD rfl; subst he; have he := Dflts.noKw hD; subst he
    refine callC_cells (by decide) ho (fd_plain hd) (Top.nolimit T) hcd rfl (kinds_of (by kinds_ok)) (by decide) (fun h₁ tk₁ cells F N0 X0 => ?_) rfl rfl rfl
    cells_open X0
    clear hd TA hD
    k_drop
    refine wpC_execs_at 1 ?_
    dsimp only [List.take, List.drop]
    k_fold
    k_steps
    repeat (with_reducible rename _ => x; revert x)
    exact Left.get
end Mine
end
section
open PySem PySem.W PyProof.Rows
namespace Mine
section
local macro_rules | `(tactic| walk_at "binaryOp Pow int int") => `(tactic| (k_here; refine pow300 ?_; intro v'))
local macro_rules | `(tactic| walk_at "binaryOp Mod int int") => `(tactic| (k_here; refine mod300 ?_; intro v'))
local macro_rules | `(tactic| walk_at "KCfEl") => `(tactic| first | exact kcf_el (norm_in (by assumption) (by assumption)) rfl rfl | exact kcf_el (norm_hi (by assumption)) rfl rfl | exact kcf_el (norm_lo (by assumption)) rfl rfl)
local macro_rules | `(tactic| walk_at "CompSrc") => `(tactic| (k_here; (try kcf_lens); k_dflt (refine LCg.CompSrc.ledger (by rfl) (by k_asm) (by k_asm) (by k_mem) (by kcf_size) ?_; intro g'; (refine' kcf_list norm (by first | assumption | l_ints) (fun k' t' I' oI' C' oC' D' m' ys' h' tk' E' hk' hC' hx' F' N' off' ne' hMark' => ?_) ?_); (all_goals (try (simp only [LCg.Off3, and_true] at off'))); kcf_last)))
set_option maxRecDepth 100000 in
set_option maxHeartbeats 8000000 in
noncomputable def D2 : PSigma (fun G : Prop => G → D1.1) := by
  refine' ⟨_, ?_⟩
  rotate_left
  · intro hG
    replace hG := Left.mk hG
    intro w
    intros
    refine wpC_execs_at 1 ?_
    dsimp only [List.take, List.drop]
    k_fold
    k_steps
    repeat (with_reducible rename _ => x; revert x)
    exact Left.get
end
end Mine
end
section
open PySem PySem.W PyProof.Rows
namespace Mine
set_option maxRecDepth 100000 in
set_option maxHeartbeats 8000000 in
noncomputable def D4 : PSigma (fun G : Prop => G → D2.1) := by
  refine' ⟨_, ?_⟩
  rotate_left
  · intro hG
    replace hG := Left.mk hG
    intro w
    intros
    refine wpC_execs_at 2 ?_
    dsimp only [List.take, List.drop]
    k_fold
    k_steps
    repeat (with_reducible rename _ => x; revert x)
    exact Left.get
end Mine
end
section
open PySem PySem.W PyProof.Rows
namespace Mine
structure Full (G : Prop) : Prop where
  get : G
section
local macro_rules | `(tactic| walk_at "call ref") => `(tactic| (k_here; (with_reducible show wpAny _ _ (call (Value.ref 320) [Value.int _ _, Value.int _ _]) _ _ _); k_dflt (refine' wpAny_call (made_code (k := 50) ?c ?b ?_); (case c => exact Cx.mk' (by assumption) (by k_asm) (Full.get (by assumption)) (by k_asm) (by assumption) rfl rfl (by decide) (by decide)); (case b => exact bd_get (by assumption) _)); intro x' dx' K' a' b' h' tk' e' F' N' l1 l2; subst e'; (try dsimp only)))
local macro_rules | `(tactic| walk_at "CompEnd") => `(tactic| exact tok_end (by assumption) (by assumption) (cls_ok _) (by assumption) (by assumption) (by assumption))
set_option maxRecDepth 100000 in
set_option maxHeartbeats 8000000 in
noncomputable def D5 : PSigma (fun G : Prop => G → D4.1) := by
  refine' ⟨_, ?_⟩
  rotate_left
  · intro hG
    replace hG := Left.mk hG
    intro w
    intros
    with_reducible rename IntsAre _ (List.map norm _) => hNums
    with_reducible rename IntsAre _ (List.take 5 _ ++ _) => hRow
    with_reducible rename IntsAre _ (List.map _ (rangeKs 0 (7 - 0 : Int).toNat)) => hRoads
    have p1 := nums_pack hNums (by simp [rangeKs_length])
    have p2 := row_pack hRow (by simp [rangeKs_length])
    have p3 := roads_pack hRoads
    clear hNums hRow hRoads
    repeat (with_reducible rename IntsAre _ (List.map _ _) => hx; clear hx)
    repeat (with_reducible rename IntsAre _ (List.take _ _) => hx; clear hx)
    repeat (with_reducible rename List.length _ = List.length _ => hx; clear hx)
    repeat (with_reducible rename List.length _ = Int.toNat _ => hx; clear hx)
    repeat (with_reducible rename List.length _ = min _ _ => hx; clear hx)
    repeat (with_reducible rename List.length _ ≤ _ => hx; clear hx)
    repeat (with_reducible rename IsRange _ _ _ _ _ _ _ _ => hx; clear hx)
    repeat (with_reducible rename (∀ b o, Heap.get? _ b = some o → Heap.get? _ b = some o) => hx; clear hx)
    obtain ⟨nums, hNums, hNl, hNb⟩ := p1
    obtain ⟨row, hRow, hRl, hRb⟩ := p2
    obtain ⟨rd, hRoads, hDl, hDb⟩ := p3
    refine wpC_execs_at 1 ?_
    dsimp only [List.take, List.drop]
    k_fold
    iterate 9 (first | (k_unfold; (try dsimp only)) | walk1 | (dsimp only; walk1))
    refine LCg.CompSrc.range (n := 7) (by rfl) (by k_asm) (by k_asm) (by assumption) (by decide) (by rfl) (by size_fits) ?_
    intro g'
    refine' tok_rest (cls := fun i => clsOf (List.getD rd (0 + (i : Int)).toNat 0)) (val := fun i => List.getD row (0 + (i : Int)).toNat 0) (fun i' t' I' oI' C' oC' D' m' ys' news' h' tk' E' hi' hC' hx' F' NFull off' ne' hs' => ?_) (fun ys' news' hs' ht' => ?_)
    · have NQ := Full.mk NFull
      have N' := news_front NFull hs'
      show wpAny _ _ _ _ _ _
      try k_fold
      k_steps
    intro D' h' tk' F' N' o1'
    have N' := news_join N' hs'
    simp only [List.cons_append, List.nil_append] at N'
    dsimp only
    k_steps
    repeat (with_reducible rename _ => x; revert x)
    exact Left.get
end
end Mine
end
section
open PySem PySem.W PyProof.Rows
namespace Mine
section
local macro_rules | `(tactic| walk_at "exec For Name Call cons nil") => `(tactic| (k_here; (rename Fr _ _ _ _ => lF'); (with_unfolding_all refine' For_invVF lF' ?k1 ?k2 ?_; (case k1 => exact rfl); (case k2 => exact rfl); k_whole)))
local macro_rules | `(tactic| walk_at "subscriptTail") => `(tactic| (k_here; (with_reducible show wpAny _ _ (subscriptTail _ _ (Value.ref 313) (Value.int _ _)) _ _ _); k_dflt (refine' title_item ?F ?X ?r ?_; (case F => k_asm); (case X => k_asm); (case r => exact rd_get (by assumption) _)); intro t'))
local macro_rules | `(tactic| walk_at "subscriptTail") => `(tactic| (k_here; (with_reducible show wpAny _ _ (subscriptTail _ _ (Value.ref _) (Value.int _ _)) _ _ _); k_dflt (refine' tok_item ?N ?D ?t ?a ?b ?_; (case N => k_asm); (case D => k_mem); (case t => assumption); (case a => with_reducible assumption); (case b => assumption)); intro x' tx'))
local macro_rules | `(tactic| walk_at "getAttr ref") => `(tactic| (k_here; (with_reducible show wpAny _ _ (getAttr (Value.ref _) (PySem.Str.ofString "value") _) _ _ _); k_dflt (refine' tok_value ?k1 ?k2 ?k3 ?k4 ?_; (case k1 => k_asm); (case k2 => k_asm); (case k3 => k_asm); (case k4 => exact TokIn.mono (by assumption) (fun p hp => by repeat (first | exact hp | apply List.mem_cons_of_mem | apply List.mem_append_right)))); intro u'))
local macro_rules | `(tactic| walk_at "call builtin:repr") => `(tactic| (k_here; (with_reducible show wpAny _ _ (call (Value.builtin "repr") [Value.ref _]) _ _ _); k_dflt (refine' repr_tok (k := 50) ?c ?b ?t ?_; (case c => exact Cx.mk' (by assumption) (by k_asm) (by k_asm) (by k_asm) (by assumption) rfl rfl (by decide) (by decide)); (case t => exact TokIn.mono (by assumption) (fun p hp => by repeat (first | exact hp | apply List.mem_cons_of_mem | apply List.mem_append_right))); (case b => exact bd_get (by assumption) _)); intro t' h' tk' F' N'))
local macro_rules | `(tactic| walk_at "compareOp NotEq ref ref") => `(tactic| (k_here; (with_reducible show wpAny _ _ (compareOp _ (Value.ref _) (Value.ref _)) _ _ _); k_dflt (refine' cmp_ne (k := 50) ?c ?t ?u ?_; (case c => exact Cx.mk' (by assumption) (by k_asm) (by k_asm) (by k_asm) (by assumption) rfl rfl (by decide) (by decide)); (case t => exact TokIn.mono (by assumption) (fun p hp => by repeat (first | exact hp | apply List.mem_cons_of_mem | apply List.mem_append_right))); (case u => exact TokIn.mono (by assumption) (fun p hp => by repeat (first | exact hp | apply List.mem_cons_of_mem | apply List.mem_append_right)))); intro h' tk' F' N'))
local macro_rules | `(tactic| walk_at "compareOp Eq ref ref") => `(tactic| (k_here; (with_reducible show wpAny _ _ (compareOp _ (Value.ref _) (Value.ref _)) _ _ _); k_dflt (refine' cmp_eq (k := 50) ?c ?t ?u ?_; (case c => exact Cx.mk' (by assumption) (by k_asm) (by k_asm) (by k_asm) (by assumption) rfl rfl (by decide) (by decide)); (case t => exact TokIn.mono (by assumption) (fun p hp => by repeat (first | exact hp | apply List.mem_cons_of_mem | apply List.mem_append_right))); (case u => exact TokIn.mono (by assumption) (fun p hp => by repeat (first | exact hp | apply List.mem_cons_of_mem | apply List.mem_append_right)))); intro h' tk' F' N'))
local macro_rules | `(tactic| walk_at "compareOp Lt ref ref") => `(tactic| (k_here; (with_reducible show wpAny _ _ (compareOp _ (Value.ref _) (Value.ref _)) _ _ _); k_dflt (refine' cmp_lt (k := 50) ?c ?t ?u ?_; (case c => exact Cx.mk' (by assumption) (by k_asm) (by k_asm) (by k_asm) (by assumption) rfl rfl (by decide) (by decide)); (case t => exact TokIn.mono (by assumption) (fun p hp => by repeat (first | exact hp | apply List.mem_cons_of_mem | apply List.mem_append_right))); (case u => exact TokIn.mono (by assumption) (fun p hp => by repeat (first | exact hp | apply List.mem_cons_of_mem | apply List.mem_append_right)))); intro h' tk' F' N'))
local macro_rules | `(tactic| walk_at "compareOp LtE ref ref") => `(tactic| (k_here; (with_reducible show wpAny _ _ (compareOp _ (Value.ref _) (Value.ref _)) _ _ _); k_dflt (refine' cmp_le (k := 50) ?c ?t ?u ?_; (case c => exact Cx.mk' (by assumption) (by k_asm) (by k_asm) (by k_asm) (by assumption) rfl rfl (by decide) (by decide)); (case t => exact TokIn.mono (by assumption) (fun p hp => by repeat (first | exact hp | apply List.mem_cons_of_mem | apply List.mem_append_right))); (case u => exact TokIn.mono (by assumption) (fun p hp => by repeat (first | exact hp | apply List.mem_cons_of_mem | apply List.mem_append_right)))); intro h' tk' F' N'))
local macro_rules | `(tactic| walk_at "compareOp Gt ref ref") => `(tactic| (k_here; (with_reducible show wpAny _ _ (compareOp _ (Value.ref _) (Value.ref _)) _ _ _); k_dflt (refine' cmp_gt (k := 50) ?c ?t ?u ?_; (case c => exact Cx.mk' (by assumption) (by k_asm) (by k_asm) (by k_asm) (by assumption) rfl rfl (by decide) (by decide)); (case t => exact TokIn.mono (by assumption) (fun p hp => by repeat (first | exact hp | apply List.mem_cons_of_mem | apply List.mem_append_right))); (case u => exact TokIn.mono (by assumption) (fun p hp => by repeat (first | exact hp | apply List.mem_cons_of_mem | apply List.mem_append_right)))); intro h' tk' F' N'))
local macro_rules | `(tactic| walk_at "compareOp GtE ref ref") => `(tactic| (k_here; (with_reducible show wpAny _ _ (compareOp _ (Value.ref _) (Value.ref _)) _ _ _); k_dflt (refine' cmp_ge (k := 50) ?c ?t ?u ?_; (case c => exact Cx.mk' (by assumption) (by k_asm) (by k_asm) (by k_asm) (by assumption) rfl rfl (by decide) (by decide)); (case t => exact TokIn.mono (by assumption) (fun p hp => by repeat (first | exact hp | apply List.mem_cons_of_mem | apply List.mem_append_right))); (case u => exact TokIn.mono (by assumption) (fun p hp => by repeat (first | exact hp | apply List.mem_cons_of_mem | apply List.mem_append_right)))); intro h' tk' F' N'))
local macro_rules | `(tactic| size_fits) => `(tactic| (refine fits_of ?_; (try simp only [PySem.Str.length_append, len_lt, len_co, len_gt, len_em]); omega))
local macro_rules | `(tactic| walk_at "call type:str") => `(tactic| (refine P.str_of_int (bd_log (bd_get (by assumption) _)) ?_))
local macro_rules | `(tactic| walk_at "compareOp NotEq str str") => `(tactic| (k_here; refine ne_shown ?_))
local macro_rules | `(tactic| walk_at "pyIter ref") => `(tactic| ((with_reducible show wpAny _ _ (pyIter (Value.ref _)) (fun it s₂ => LoopAtV _ _ _ _ _ _ _ _ _ it s₂) _ _); (with_reducible rename Fr _ _ _ _ => lF'); (with_reducible rename News _ _ _ _ => lN'); (with_reducible rename IsRange _ _ _ _ _ _ _ _ => rgX); (with_unfolding_all refine iter_rangeLaw [Str.ofString "other", Str.ofString "left", Str.ofString "right"] (by rfl) rgX (by decide) (by rfl) lF' lN' (fun j' t' u' h' tk' o' hlo' hhi' F' N' => ?_) (fun u' h' tk' F' N' => ?_)) <;> (clear lF' lN' rgX; (try dsimp only at N'))))
set_option maxRecDepth 100000 in
set_option maxHeartbeats 8000000 in
noncomputable def D6 : PSigma (fun G : Prop => G → D5.1) := by
  refine' ⟨_, ?_⟩
  rotate_left
  · intro hG
    replace hG := Left.mk hG
    intro w
    intros
    refine wpC_execs_at 1 ?_
    dsimp only [List.take, List.drop]
    k_fold
    iterate 9 (first | (k_unfold; (try dsimp only)) | walk1 | (dsimp only; walk1))
    with_reducible rename Fr _ _ _ _ => lF'
    with_reducible rename News _ _ _ _ => lN'
    with_reducible rename IsRange _ _ _ _ _ _ _ _ => rgX
    with_reducible rename ∀ (n : Int), n ∈ _ → Bd n => hRb
    with_reducible rename ∀ (n : Int), n ∈ _ → 0 ≤ n ∧ n ≤ 6 => hDb
    with_reducible rename Toks _ _ _ _ _ _ => hTk
    with_reducible rename List Int => rd
    with_unfolding_all refine iter_rangeLaw [Str.ofString "told", Str.ofString "j", Str.ofString "other", Str.ofString "left", Str.ofString "right"] (by rfl) rgX (by decide) (by rfl) lF' lN' (fun n' t' u' h' tk' o' hlo' hhi' F' N' => ?_) (fun u' h' tk' F' N' => ?_)
    · clear lF' lN' rgX
      (try dsimp only at N')
      have hT := title_len (C := clsOf (rd.getD n'.toNat 0))
      have hL := bd_len (bd_get hRb n'.toNat)
      k_steps
    clear lF' lN' rgX
    (try dsimp only at N')
    k_steps
    repeat (with_reducible rename _ => x; revert x)
    exact Left.get
end
end Mine
end
section
open PySem PySem.W PyProof.Rows
namespace Mine
section
local macro_rules | `(tactic| walk_at "getAttr ref") => `(tactic| (k_here; (with_reducible show wpAny _ _ (getAttr (Value.ref _) (PySem.Str.ofString "value") _) _ _ _); k_dflt (refine' tok_value ?k1 ?k2 ?k3 ?k4 ?_; (case k1 => k_asm); (case k2 => k_asm); (case k3 => k_asm); (case k4 => exact TokIn.mono (by assumption) (fun p hp => by repeat (first | exact hp | apply List.mem_cons_of_mem | apply List.mem_append_right)))); intro u'))
local macro_rules | `(tactic| walk_at "call builtin:sorted") => `(tactic| (k_here; (with_reducible show wpAny _ _ (call (Value.builtin "sorted") [Value.ref _]) _ _ _); k_dflt (refine' sorted_toks (k := 42) ?c ?D ?t ?s ?_; (case c => exact Cx.mk' (by assumption) (by k_asm) (by k_asm) (by k_asm) (by assumption) rfl rfl (by decide) (by decide)); (case D => k_mem); (case t => assumption); (case s => exact (fun p hp => by repeat (first | exact hp | apply List.mem_cons_of_mem | apply List.mem_append_right)))); intro o' c' v' D' n' h' tk' tx' pp' pa' F' N' l1'))
local macro_rules | `(tactic| walk_at "eval ListComp") => `(tactic| (k_here; k_dflt (refine LCg.ListComp_U (F₀ := by k_asm) (by with_unfolding_all rfl) (by decide) (by rfl) (by decide) (by rfl) ?_)))
local macro_rules | `(tactic| walk_at "compareOp NotEq ref ref") => `(tactic| (k_here; (with_reducible show wpAny _ _ (compareOp CmpOp.NotEq (Value.ref _) (Value.ref _)) _ _ _); (with_unfolding_all refine' ne_same ?k1 ?k2 ?k3 ?k4 ?k5 ?k6 ?_; (case k1 => is_list); (case k2 => assumption); (case k3 => is_list); (case k4 => l_intsC); (case k5 => units_room); (case k6 => exact sorted_same (by assumption) (by assumption) (by assumption) (by assumption) (by assumption)); k_whole)))
local macro_rules | `(tactic| walk_at "Exists") => `(tactic| exact ⟨_, _, rfl, rfl⟩)
set_option maxRecDepth 100000 in
set_option maxHeartbeats 8000000 in
noncomputable def D7 : PSigma (fun G : Prop => G → D6.1) := by
  refine' ⟨_, ?_⟩
  rotate_left
  · intro hG
    replace hG := Left.mk hG
    intro w
    intros
    refine wpC_execs_at 1 ?_
    dsimp only [List.take, List.drop]
    k_fold
    repeat (first | (k_unfold; (try dsimp only)) | walk1 | (dsimp only; walk1))
    refine' vals_src ?vh ?vF ?vN ?vm ?vt (fun g' i' x' I' oI' C' oC' D' m' ys' h' tk' E' tx' hC' hx' F' N' => ?_) (fun g' ys' news' hs' hI' => ?_)
    (case vh => rfl)
    (case vF => k_asm)
    (case vN => k_asm)
    (case vm => k_mem)
    (case vt => assumption)
    · show wpAny _ _ _ _ _ _
      try k_fold
      k_steps
    intro D' h' tk' F' N' o1'
    have N' := news_keep N' hs'
    dsimp only
    k_steps
    repeat (with_reducible rename _ => x; revert x)
    exact Left.get
end
end Mine
end
section
open PySem PySem.W PyProof.Rows
namespace Mine
section
set_option maxRecDepth 100000 in
set_option maxHeartbeats 8000000 in
noncomputable def D8 : PSigma (fun G : Prop => G → D7.1) := by
  refine' ⟨_, ?_⟩
  rotate_left
  · intro hG
    replace hG := Left.mk hG
    intro w
    intros
    refine wpC_execs_at 2 ?_
    dsimp only [List.take, List.drop]
    k_fold
    k_steps
    repeat (with_reducible rename _ => x; revert x)
    exact Left.get
end
end Mine
end
section
open PySem PySem.W PySem.Calls PyProof.Rows
namespace Mine
section
set_option maxRecDepth 100000 in
set_option maxHeartbeats 8000000 in
noncomputable def D9 : PSigma (fun G : Prop => G → D8.1) := by
  refine' ⟨_, ?_⟩
  rotate_left
  · intro hG
    replace hG := Left.mk hG
    intro w
    intros
    with_reducible rename News _ _ _ _ => lN'
    with_reducible rename _ < _ ∧ _ => lw
    obtain ⟨N', l1⟩ := news_sel lN' lw
    dsimp only at N' l1
    clear lN' lw
    refine wpC_execs_cons (wpC_For ?_)
    k_fold
    k_steps
    with_reducible rename Fr _ _ _ _ => lF'
    with_reducible rename News _ _ _ _ => lN'
    with_reducible rename IsRange _ _ _ _ _ _ _ _ => rgX
    refine wpAny_pyIter_range rgX (by decide) ?_
    refine codeC_turn (k := 0) (left := 3) rfl rfl rfl (lF'.push (itR 0 3)) (lN'.push lF' (itR 0 3)) (fun p hp => Nat.ne_of_lt (Heap.lt_size (lN' p hp).1)) (by decide) (fun t' h' tk' F' N' => ?_)
    have lI := news_lt6 lN'
    dsimp only at lI
    clear lF' lN' rgX
    dsimp only
    refine wpC_execs_cons (wpC_Try (wpC_execs_cons (wpC_If ?_)))
    k_steps
    refine cOf ?_
    k_steps
    rotate_left
    refine note_C rfl (by assumption) (raised_drop1 (raised_of (by assumption))) (by assumption) (by assumption) (fun h₅ R₅ F₅ => ?_)
    refine handle_C (b := true) (p := hd.view_39) rfl rfl rfl rfl F₅ R₅ (topRead_of (by assumption)) PyProof.Rows.Boot.«NotImplementedError» PySem.F.isExc_NotImplementedError PySem.F.notTuple_NotImplementedError (by rw [isSubtype_type]; kernel_rfl) ?_ rfl
    simp only [if_true]
    intro h6 F6 N6
    k_steps
    refine' append_w ?k1 ?k2 ?k3 ?k4 ?z ?_
    case k1 => k_asm
    case k2 => k_asm
    case k3 => exact And.left (by assumption)
    case k4 => assumption
    case z => exact Nat.le_of_ble_eq_true rfl
    intro h' F' N'
    k_steps
    dsimp only
    refine cOf (wpAny_execs_nil ?_)
    dsimp only
    clear N6 F6
    with_reducible rename Fr _ _ _ _ => lF'
    with_reducible rename News _ _ _ _ => lN'
    refine codeC_turn (k := 1) (left := 2) rfl rfl rfl lF' lN' (fun p hp => Nat.ne_of_lt (off6 lI p hp)) (by decide) (fun t' h' tk' F' N' => ?_)
    clear lF' lN'
    dsimp only
    repeat (with_reducible rename _ => x; revert x)
    exact Left.get
    exact envOf PySem.Str.empty { kind := ScopeKind.function, names := [], isGenerator := false, isCoroutine := false } 0 0 Value.none
end
end Mine
end
section
open PySem PySem.W PySem.Calls PyProof.Rows
namespace Mine
theorem pick_In {A : Around} {b : Heap} {P : Frag} (_ : Below A b [] b) (X : P.In b) : P.In b := X
theorem x_len {n : Int} (h : Bd n) : (Str.ofString "x" ++ Str.ofString (toString n)).length ≤ 1000 := by
  have h1 := bd_len h
  have h2 : (Str.ofString "x").length = 1 := by decide
  rw [PySem.Str.length_append]; omega
theorem x_len2 {n : Int} (h : Bd n) : (Str.ofString "x").length + (Str.ofString (toString n)).length ≤ 1000 := by
  have h1 := bd_len h
  have h2 : (Str.ofString "x").length = 1 := by decide
  omega
theorem x_len3 {n : Int} (h : Bd n) : (Str.ofString "x").length + (Str.ofString (toString n)).length ≤ sizeLine := Nat.le_trans (x_len2 h) (by rw [sizeLine_eq]; decide)
section
local macro_rules | `(tactic| size_fits) => `(tactic| (refine fits_of ?_; first | exact x_len (bd_get (by assumption) _) | exact x_len2 (bd_get (by assumption) _)))
local macro_rules | `(tactic| walk_at "binaryOp Add str str") => `(tactic| (refine PyProof.Rows.add_str ?_ (x_len3 (bd_get (by assumption) _)); intro t' tk'))
local macro_rules | `(tactic| walk_at "call type:str") => `(tactic| (refine P.str_of_int (bd_log (bd_get (by assumption) _)) ?_))
set_option maxRecDepth 100000 in
set_option maxHeartbeats 8000000 in
noncomputable def D10 : PSigma (fun G : Prop => G → D9.1) := by
  refine' ⟨_, ?_⟩
  rotate_left
  · intro hG
    replace hG := Left.mk hG
    intro w
    intros
    refine wpC_execs_cons (wpC_Try (wpC_execs_cons (wpC_If ?_)))
    k_fold
    k_steps
    refine wpC_execs_cons (wpC_If ?_)
    k_steps
    refine wpC_execs_cons (wpC_Expr (wpC_Call_Name ?_))
    k_steps
    refine wpC_callWith1 (P := (hd.heap_39 w.params).In) (keeps_K (by k_is)) ?_
    k_steps
    with_reducible rename Fr _ _ _ _ => lF'
    with_reducible rename News _ _ _ _ => lN'
    with_reducible rename Below callerA _ [] _ => K0
    have KX : (hd.heap_39 w.params).In _ := pick_In K0 (by assumption)
    refine wpC_call ?_
    show codeC _ _ (.call (.ref 310) ⟨[_], []⟩) _ _
    refine' make_KC lF' lN' (KX.keeps lF'.keep) ?ca ?cb ?cc ?_
    case ca => k_is
    case cb => k_is
    case cc => k_is
    intro x' dx' h' F' N' l1 l2
    refine init_bad (k := 50) ⟨⟨_, K0⟩, F', N', KX, ⟨_, _, _, _, _, by assumption⟩, Around.frames_deeper K0.stack, rfl, rfl, Nat.le_of_ble_eq_true rfl, Nat.le_of_ble_eq_true rfl⟩ rfl (bad_x (bd_get (by assumption) _)) (fun h'' tk e fl => ?_)
    clear F' N' l1 l2 lF' lN'
    obtain ⟨g, FG, U, R⟩ := fl.out
    clear fl
    dsimp only [ErrOnly]
    refine note_C rfl K0 (raised_drop R) U FG (fun h₅ R₅ F₅ => ?_)
    refine handle_C (b := false) (p := hd.view_39) rfl rfl rfl rfl F₅ R₅ (topRead_of (by assumption)) PyProof.Rows.Boot.«NotImplementedError» PySem.F.isExc_NotImplementedError PySem.F.notTuple_NotImplementedError (by rw [isSubtype_type]; kernel_rfl) ?_ rfl
    simp only [Bool.false_eq_true, if_false]
    refine handle_C (b := true) (p := hd.view_39) rfl rfl rfl rfl F₅ R₅ (topRead_of (by assumption)) PyProof.Rows.Boot.«ValueError» PySem.F.isExc_ValueError PySem.F.notTuple_ValueError (by rw [isSubtype_type]; kernel_rfl) ?_ rfl
    simp only [if_true]
    intro h6 F6 N6
    k_steps
    refine' append_w ?k1 ?k2 ?k3 ?k4 ?z ?_
    case k1 => k_asm
    case k2 => k_asm
    case k3 => exact And.left (by assumption)
    case k4 => assumption
    case z => exact Nat.le_of_ble_eq_true rfl
    intro h' F' N'
    k_steps
    dsimp only
    refine cOf (wpAny_execs_nil ?_)
    dsimp only
    clear N6 F6
    with_reducible rename Fr _ _ _ _ => lF'
    with_reducible rename News _ _ _ _ => lN'
    refine codeC_turn (k := 2) (left := 1) rfl rfl rfl lF' lN' (fun p hp => Nat.ne_of_lt (off6 (by assumption) p hp)) (by decide) (fun t' h' tk' F' N' => ?_)
    clear lF' lN'
    dsimp only
    repeat (with_reducible rename _ => x; revert x)
    exact Left.get
end
end Mine
end
section
open PySem PySem.W PySem.Calls PyProof.Rows
namespace Mine
section
set_option maxRecDepth 100000 in
set_option maxHeartbeats 8000000 in
noncomputable def D11 : PSigma (fun G : Prop => G → D10.1) := by
  refine' ⟨_, ?_⟩
  rotate_left
  · intro hG
    replace hG := Left.mk hG
    intro w
    intros
    refine wpC_execs_cons (wpC_Try (wpC_execs_cons (wpC_If ?_)))
    k_fold
    k_steps
    refine wpC_execs_cons (wpC_If ?_)
    k_steps
    refine wpC_execs_cons (wpC_Expr (wpC_Call_Attr ?_))
    k_steps
    refine wpC_callWith1 (P := MethP (hd.heap_39 w.params) _ 275 (.ref 281)) (keeps_M (by k_is)) ?_
    k_steps
    with_reducible rename Fr _ _ _ _ => lF'
    with_reducible rename News _ _ _ _ => lN'
    with_reducible rename Below callerA _ [] _ => K0
    have KX : (hd.heap_39 w.params).In _ := pick_In K0 (by assumption)
    refine wpC_call ?_
    show codeC _ _ (.call (.ref _) ⟨[_], []⟩) _ _
    refine meth_C (f := .ref 275) (self := .ref 281) (lN' _ (.head _)).1 ?_
    refine from_bad (k := 50) ⟨⟨_, K0⟩, lF', lN', KX, ⟨_, _, _, _, _, by assumption⟩, Around.frames_deeper K0.stack, rfl, rfl, Nat.le_of_ble_eq_true rfl, Nat.le_of_ble_eq_true rfl⟩ rfl bad_55 (fun h'' tk e fl => ?_)
    clear lF' lN'
    obtain ⟨g, FG, U, R⟩ := fl.out
    clear fl
    dsimp only
    refine note_C rfl K0 (raised_drop1 R) U FG (fun h₅ R₅ F₅ => ?_)
    refine handle_C (b := false) (p := hd.view_39) rfl rfl rfl rfl F₅ R₅ (topRead_of (by assumption)) PyProof.Rows.Boot.«NotImplementedError» PySem.F.isExc_NotImplementedError PySem.F.notTuple_NotImplementedError (by rw [isSubtype_type]; kernel_rfl) ?_ rfl
    simp only [Bool.false_eq_true, if_false]
    refine handle_C (b := true) (p := hd.view_39) rfl rfl rfl rfl F₅ R₅ (topRead_of (by assumption)) PyProof.Rows.Boot.«ValueError» PySem.F.isExc_ValueError PySem.F.notTuple_ValueError (by rw [isSubtype_type]; kernel_rfl) ?_ rfl
    simp only [if_true]
    intro h6 F6 N6
    k_steps
    refine' append_w ?k1 ?k2 ?k3 ?k4 ?z ?_
    case k1 => k_asm
    case k2 => k_asm
    case k3 => exact And.left (by assumption)
    case k4 => assumption
    case z => exact Nat.le_of_ble_eq_true rfl
    intro h' F' N'
    k_steps
    dsimp only
    refine cOf (wpAny_execs_nil ?_)
    dsimp only
    clear N6 F6
    with_reducible rename Fr _ _ _ _ => lF'
    with_reducible rename News _ _ _ _ => lN'
    refine codeC_turns_end rfl rfl lF' lN' (fun p hp => Nat.ne_of_lt (off6 (by assumption) p hp)) (by decide) (fun h' F' N' => ?_)
    clear lF' lN'
    dsimp only
    repeat (with_reducible rename _ => x; revert x)
    exact Left.get
end
end Mine
end
section
open PySem PySem.W PySem.Calls PyProof.Rows
namespace Mine
section
set_option maxRecDepth 100000 in
set_option maxHeartbeats 8000000 in
theorem main12 : D11.1 := by
  intro w
  intros
  refine cOf ?_
  k_fold
  k_steps
end
end Mine
end
theorem Mine.main : PySem.Challenge.rw_db5001_01.Holds := Mine.D1.2 (Mine.D2.2 (Mine.D4.2 (Mine.D5.2 (Mine.D6.2 (Mine.D7.2 (Mine.D8.2 (Mine.D9.2 (Mine.D10.2 (Mine.D11.2 (Mine.main12))))))))))
theorem PySem.Challenge.cw_db5001_01_holds : PySem.Challenge.rw_db5001_01.Holds := by
  exact Mine.main

import PyProof.Rows.All
import Wide.All
import OpenK.AllK
import Wide.FinOn
import PySem.Challenge.RW_xo0031_01
open PySem PySem.W PyProof.Rows
set_option Elab.async false
set_option maxRecDepth 100000
set_option linter.unusedVariables false
set_option linter.unusedSimpArgs false
namespace Mine
section
open PySem.Spec PySem.Calls PySem.SeqAt
open Sem (wp)
/-- a code that a bytearray asks the stack for -/
noncomputable def badIds : List String := ["bytearray.__contains__", "bytearray.__mod__", "bytearray.__rmod__", "_struct.pack_into.held", "bytearray.find.held"] ++ Builtin.Bytes.decodersThatHold
noncomputable def bad : Code → Bool
  | .builtin id _ => badIds.contains id
  | _ => false
noncomputable def Clean (Γ : PySem.Ctx) : Prop := bad Γ.code = false ∧ ∀ x ∈ Γ.below, bad x.1 = false
noncomputable def wpC {α : Type} (M : Model) (A : Around) (t : Sem α) (Q : α → Shared → Prop) (E : Value → Shared → Prop) (s : Shared) : Prop :=
  ∀ Γ p, Γ.In A → Clean Γ → wp M Γ t (fun a _ s' => Q a s') (fun e _ s' => E e s') p s
noncomputable def codeC (M : Model) (A : Around) (c : Code) (R : Result → Shared → Prop) (s : Shared) : Prop :=
  ∀ Γ p, Γ.code = c → Γ.Below A → Clean Γ → wpCode M Γ R p s

section
variable {α β : Type} {M : Model} {A : Around} {E : Value → Shared → Prop} {s : Shared}
theorem wpC_of {t : Sem α} {Q : α → Shared → Prop} (h : wpAny M A t Q E s) : wpC M A t Q E s := fun Γ p hΓ _ => h Γ p hΓ
theorem wpC_mono {t : Sem α} {Q Q' : α → Shared → Prop} {E' : Value → Shared → Prop} (h : wpC M A t Q E s) (hQ : ∀ a s, Q a s → Q' a s) (hE : ∀ e s, E e s → E' e s) : wpC M A t Q' E' s :=
  fun Γ p hΓ hc => Sem.wp_mono M Γ t (fun a _ s => hQ a s) (fun e _ s => hE e s) p s (h Γ p hΓ hc)
theorem wpC_bind {m : Sem α} {f : α → Sem β} {Q : β → Shared → Prop} (h : wpC M A m (fun a s' => wpC M A (f a) Q E s') E s) : wpC M A (m >>= f) Q E s := fun Γ p hΓ hc => by
  rw [Sem.wp_bind']
  exact Sem.wp_mono M Γ m (fun a p' s' h' => h' Γ p' hΓ hc) (fun _ _ _ h' => h') p s (h Γ p hΓ hc)
/-- the first part needs no look at the stack -/
theorem wpC_then {m : Sem α} {f : α → Sem β} {Q : β → Shared → Prop} (h : wpAny M A m (fun a s' => wpC M A (f a) Q E s') E s) : wpC M A (m >>= f) Q E s := wpC_bind (wpC_of h)
theorem wpC_pure {a : α} {Q : α → Shared → Prop} (h : Q a s) : wpC M A (pure a) Q E s := wpC_of (wpAny_pure h)
theorem wpC_holding {vs : List Value} {m : Sem α} {Q : α → Shared → Prop} (h : wpC M A m Q E s) : wpC M A (holding vs m) Q E s :=
  fun Γ p hΓ hc => by rw [Sem.wp_holding]; exact h Γ p hΓ hc
theorem wpC_keep {vs : List Value} {m : Sem α} {Q : α → Shared → Prop} (h : wpC M A m Q E s) : wpC M A (m.keep vs) Q E s :=
  fun Γ p hΓ hc => by rw [Sem.wp_keep]; exact h Γ p hΓ hc
theorem wpC_onRaise {m : Sem α} {k : Value → Sem Unit} {Q : α → Shared → Prop} (h : wpC M A m Q (fun _ _ => False) s) : wpC M A (m.onRaise k) Q E s := fun Γ p hΓ hc => by
  rw [Sem.wp_onRaise]
  exact Sem.wp_mono M Γ m (fun _ _ _ h' => h') (fun e p' s' h' => h'.elim) p s (h Γ p hΓ hc)
theorem wpC_runValue {c : Code} {Q : Value → Shared → Prop} (hb : bad c = false)
    (hc : codeC M A c (fun r s' => match r with | .ok (.ret v) => Q v s' | .ok _ => False | .error e => E e s') s) : wpC M A (runValue c) Q E s := fun Γ p hΓ hcl => by
  rw [Sem.wp_runValue]
  refine hc _ p rfl (hΓ.enter c none p (by intro x; cases x)) ⟨hb, fun x hx => ?_⟩
  rcases List.mem_cons.mp (show x ∈ (Γ.code, p) :: Γ.below from hx) with rfl | h
  · exact hcl.1
  · exact hcl.2 x h
theorem wpC_call {f : Value} {pos : List Value} {kw : List (Str × Value)} {Q : Value → Shared → Prop}
    (hc : codeC M A (.call f ⟨pos, kw⟩) (fun r s' => match r with | .ok (.ret v) => Q v s' | .ok _ => False | .error e => E e s') s) : wpC M A (call f pos kw) Q E s := wpC_runValue rfl hc
theorem codeC_of_tree {c : Code} {R : Result → Shared → Prop}
    (h : wpC M (A.under c) (M.den c) (fun fin s' => match fin with | .done f => R (.ok f) s' | .again c' => c'.quiet = true ∧ bad c' = false ∧ codeC M A c' R s') (fun e s' => R (.error e) s') s) : codeC M A c R s := fun Γ p hc hΓ hcl => by
  rw [wpCode_iff_wp, hc]
  refine Sem.wp_mono M Γ _ (fun fin p' s' h' => ?_) (fun _ _ _ h' => h') p s (h Γ p (hc ▸ hΓ.in) hcl)
  cases fin with
  | done f => exact h'
  | again c' => exact ⟨h'.1, h'.2.2 (Γ.goto c') p' rfl (hΓ.goto c') ⟨h'.2.1, hcl.2⟩⟩
theorem codeC_mono {c : Code} {R R' : Result → Shared → Prop} (h : codeC M A c R s) (hR : ∀ r s, R r s → R' r s) : codeC M A c R' s := fun Γ p hc hΓ hcl => wpCode_mono hR (h Γ p hc hΓ hcl)
theorem codeC_of {c : Code} {R : Result → Shared → Prop} (h : codeAny M A c R s) : codeC M A c R s := fun Γ p hc hΓ _ => h Γ p hc hΓ
theorem wpC_execs_cons {env : Env} {st : Stmt} {rest : List Stmt} {Q : Flow → Shared → Prop}
    (h : wpC M A (exec st env) (fun f s' => match f with | .next => wpC M A (execs rest env) Q E s' | f => Q f s') E s) : wpC M A (execs (st :: rest) env) Q E s := fun Γ p hΓ hc => by
  rw [execs_cons, Sem.wp_bind']
  refine Sem.wp_mono M Γ _ (fun f p' s' h' => ?_) (fun _ _ _ h' => h') _ _ (h Γ p hΓ hc)
  cases f <;> first | exact h' Γ p' hΓ hc | exact h'
theorem wpC_Assign_Name {env : Env} {x : Str} {pos' : Pos} {value : Expr} {pos : Pos} {Q : Flow → Shared → Prop}
    (h : wpC M A (eval value env) (fun v s₁ => wpAny M A (storeName env x v) (fun _ => Q .next) E s₁) E s)
    (hs : swapsWith value (some (.Name x pos')) pos.line env = pure false := by with_unfolding_all rfl) : wpC M A (exec (.Assign [.Name x pos'] value pos) env) Q E s := fun Γ p hΓ hc => by
  simp only [exec_Assign_Name env x pos' value pos hs, Sem.wp_bind', Sem.wp_cmd_standAt, Sem.wp_bindName, Sem.wp_pure']
  exact Sem.wp_mono M Γ _ (fun v _ s₁ h₁ => h₁ Γ _ hΓ) (fun _ _ _ h' => h') _ _ (h Γ _ hΓ hc)
theorem wpC_Return_some {env : Env} {e : Expr} {pos : Pos} {Q : Flow → Shared → Prop} (h : wpC M A (eval e env) (fun v => Q (.ret v)) E s) : wpC M A (exec (.Return (some e) pos) env) Q E s := fun Γ p hΓ hc => by
  simp only [exec_Return_some, Sem.wp_bind', Sem.wp_cmd_standAt, Sem.wp_pure']; exact h Γ _ hΓ hc
theorem wpC_Compare1 {env : Env} {l r : Expr} {op : CmpOp} {pos : Pos} {Q : Value → Shared → Prop}
    (h : wpAny M A (eval l env) (fun a s₁ => wpC M A (eval r env) (fun b s₂ => wpAny M A (compareOp op a b) Q E s₂) E s₁) E s)
    (hm : behindInMarks op r = false := by with_unfolding_all rfl) : wpC M A (eval (.Compare l [op] [r] pos) env) Q E s := fun Γ p hΓ hc => by
  simp only [eval_Compare1, markedBehindIn_of_false hm, Sem.wp_bind', Sem.wp_holding, Sem.wp_cmd_standAt, Sem.wp_operate]
  exact Sem.wp_mono M Γ _ (fun a p₁ s₁ h₁ => Sem.wp_mono M Γ _ (fun b _ s₂ h₂ => h₂ Γ _ hΓ) (fun _ _ _ h' => h') _ _ (h₁ Γ p₁ hΓ hc))
    (fun _ _ _ h' => h') _ _ (h Γ p hΓ)
theorem wpC_Call_Name {env : Env} {id : Str} {p pos : Pos} {args : List Expr} {Q : Value → Shared → Prop}
    (h : wpAny M A (eval (.Name id p) env) (fun f s₁ => wpC M A (callWith pos f [] (backTo pos (starEach args env)) []) Q E s₁) E s) : wpC M A (eval (.Call (.Name id p) args [] pos) env) Q E s := by
  show wpC M A (do callWith pos (← eval (.Name id p) env) [] (backTo pos (starEach args env)) (backToKw pos (keywordEach [] env))) Q E s
  exact wpC_then h
theorem wpC_callWith_of {P : Heap → Prop} {pos : Pos} {f : Value} {args : List (Bool × Sem Value)} {Q : Value → Shared → Prop} (hplain : args.any (·.1) = false)
    (hk : ∀ h, P h → ∃ k, (k = Keeper.frame ∨ k = Keeper.machine ∨ k = Keeper.boundFrame) ∧ Looks M h (keeperOf f) k)
    (h : wpAny M A (evalArgs f true args []) (fun a s₁ => P s₁.heap ∧ wpC M A (call f ([] ++ a.pos) a.kw) Q E s₁) E s) : wpC M A (callWith pos f [] args []) Q E s := by
  unfold callWith
  refine wpC_then (wpAny_holding (wpAny_mono h (fun a s₁ h₁ => wpC_then (wpAny_standAt ?_)) fun _ _ x => x))
  obtain ⟨k, hk', L⟩ := hk _ h₁.1
  simp only [hplain, List.any_nil, Bool.or_false]
  refine wpC_then (L.here ?_)
  have tail : ∀ {t : Sem Value}, wpC M A t Q E s₁ → wpC M A (t >>= fun r => holding [r] point >>= fun _ => pure r) Q E s₁ :=
    fun ht => wpC_bind (wpC_mono ht (fun r s₂ hr => wpC_of (wpAny_bind (wpAny_holding (wpAny_point (wpAny_pure hr))))) fun _ _ x => x)
  have marked (mk : Value) : wpC M A (callMarked mk f ([] ++ a.pos) a.kw) Q E s₁ := by unfold callMarked; exact wpC_keep h₁.2
  rcases hk' with rfl | rfl | rfl <;> first | exact tail h₁.2 | (split <;> first | exact tail h₁.2 | exact tail (marked _)) | (dsimp only; first | exact tail h₁.2 | (split <;> first | exact tail h₁.2 | exact tail (marked _)))
theorem wpC_callWith_def {K : Frag} {env : Env} {pos : Pos} {f : Value} {e : Expr} {rest : List Expr} {Q : Value → Shared → Prop} (hk : keepIn K f = true)
    (h : wpAny M A (spliced (backTo pos (starEach (e :: rest) env))) (fun vs s₁ => K.In s₁.heap ∧ wpC M A (call f vs) Q E s₁) E s)
    (he : starEach (e :: rest) env = (false, eval e env) :: starEach rest env := by with_unfolding_all rfl) (hplain : (backTo pos (starEach rest env)).any (·.1) = false := by with_unfolding_all rfl) :
    wpC M A (callWith pos f [] (backTo pos (starEach (e :: rest) env)) []) Q E s := by
  rw [he] at h ⊢
  exact wpC_callWith_of (by show (false || (backTo pos (starEach rest env)).any (·.1)) = false; rw [hplain]; rfl) (keeps_K hk) (evalArgs_plain h)
theorem wpC_callWith_type {env : Env} {pos : Pos} {T : String} {e : Expr} {rest : List Expr} {Q : Value → Shared → Prop}
    (h : wpAny M A (spliced (backTo pos (starEach (e :: rest) env))) (fun vs s₁ => True ∧ wpC M A (call (.type T) vs) Q E s₁) E s)
    (he : starEach (e :: rest) env = (false, eval e env) :: starEach rest env := by with_unfolding_all rfl) (hplain : (backTo pos (starEach rest env)).any (·.1) = false := by with_unfolding_all rfl) :
    wpC M A (callWith pos (.type T) [] (backTo pos (starEach (e :: rest) env)) []) Q E s := by
  rw [he] at h ⊢
  exact wpC_callWith_of (P := fun _ => True) (by show (false || (backTo pos (starEach rest env)).any (·.1)) = false; rw [hplain]; rfl) (fun h _ => ⟨.machine, .inr (.inl rfl), Looks.of_pure rfl⟩) (evalArgs_plain h)
end
open PySem.Spec PySem.Calls
/-- a run from the caller's own stack: no decoder is on it -/
theorem caller_clean : Clean (⟨.builtin "claim.caller" {}, none, none, [], none⟩ : PySem.Ctx) := ⟨by decide +kernel, fun _ h => nomatch h⟩
theorem ends_C {prog : Program} {w : World} {t : Sem PySem.Fin} {s : Shared} {R : Result → Shared → Prop} (hz : s.asleep)
    (h : wpC (model prog w) callerA t (fun fin s' => ∃ f, fin = .done f ∧ R (.ok f) s' ∧ AllBare s'.gens) (fun e s' => R (.error e) s' ∧ AllBare s'.gens) s) :
    ∃ n r s' s'', runN (denote table) prog w n s ⟨t, .builtin "claim.caller" {}, default, []⟩ = .halted (outcomeOf r) s' ∧
      schedN (denote table) prog w n (.single s ⟨t, .builtin "claim.caller" {}, default, []⟩) = .halted (outcomeOf r) s' ∧ s'.forget = s''.forget ∧ R r s'' := by
  obtain ⟨n, r, s₁, s₂, a, b, c, hR⟩ := wp_halts_full (M := model prog w) (R := R) (p := default) (t := t) (c := .builtin "claim.caller" {}) hz
    (Sem.wp_mono _ _ t (fun fin _ s' h' => by obtain ⟨f, rfl, hr, hb⟩ := h'; exact ⟨hr, leftWithCleanup_false_of_bare hb⟩) (fun e _ s' h' => ⟨h'.1, leftWithCleanup_false_of_bare h'.2⟩) default s (h _ default caller_in caller_clean))
  exact ⟨n, r, s₂, s₁, b, a, c, hR⟩
theorem from_C {c : ClaimW} {tree : List Value → Sem PySem.Fin} {w : World} {s : Shared} {free : Addr → Prop} {gens : Prop} {kept : Heap → Prop} (hz : s.asleep) (hg : s.gens = #[])
    (spec : ∀ args, c.pre args = true → WData.layableAll args = true → ∀ ord : List DictEntry → List DictEntry, (∀ l, (ord l).Perm l) →
      ∃ vs s₁, layAllW c.records (classAt s.heap) w.params ord args s = some (vs, s₁) ∧
        wpC (model c.prog w) callerA (tree vs) (fun fin s' => ∃ f, fin = .done f ∧ (c.Ends s args vs s₁ (.ok f) s' ∧ s'.os = s.os ∧ kept s'.heap) ∧ AllBare s'.gens)
          (fun e s' => (c.Ends s args vs s₁ (.error e) s' ∧ s'.os = s.os ∧ kept s'.heap) ∧ AllBare s'.gens) s₁) :
    c.CallFrom (fun vs => ⟨tree vs, .builtin "claim.caller" {}, default, []⟩) w free gens kept s := by
  intro args hpre hlay ord hord
  obtain ⟨vs, s₁, hlaid, hcode⟩ := spec args hpre hlay ord hord
  have hal := layAllW_rest _ _ _ hlaid
  obtain ⟨k, r, s', s'', hrun, hsched, hfo, hcase, hos, hkp⟩ := ends_C (R := fun r s' => c.Ends s args vs s₁ r s' ∧ s'.os = s.os ∧ kept s'.heap) (Shared.asleep_of_life hal.2.2.2 hz) hcode
  obtain ⟨eh, _, _, eo, _⟩ := Shared.forget_eq hfo
  rw [← eo] at hos
  rw [← eh] at hkp
  have hlife : s'.heap.life = s.heap.life := (runN_life _ _ _ hrun).trans hal.2.2.2
  refine ⟨vs, s₁, hlaid, k, _, s', hsched, ?_, (fun _ i x hx => by rw [hg] at hx; simp at hx), hkp, by rw [hlife], Shared.rest_eq hos⟩
  rcases hcase.congr eh with ⟨v, rfl, d1, d2, d3, d4, d5⟩ | ⟨e, ob, cls, rfl, d1, d2, d3, d4, d5⟩
  · exact .inl ⟨v, rfl, d1, d2, d3, fun b o y _ => d4 b o y, d5⟩
  · exact .inr ⟨e, ob, cls, rfl, d1, d2, d3, d4, fun b o y _ => d5 b o y⟩
section
variable {q : Program} {loose : List Str} {XP : (Str → Option Value) → Heap → Prop} {YP : World → Heap → Prop}
/-- what is to be shown of the call: on a stack without decoders, the table 63 empty at its start -/
noncomputable abbrev WalkC (q : Program) (loose : List Str) (XP : (Str → Option Value) → Heap → Prop) (YP : World → Heap → Prop) (r : OpenRow) (d : DefRec) (kwd : List (Str × Expr)) : Prop :=
  ∀ (w : World) (s₀ s₁ : Shared) (mg mb : Str → Option Value), Ground q loose r.records XP w s₀ mg mb s₁.heap → YP w s₁.heap → s₁.heap.get? 63 = some (tabObj #[]) → ∀ (a : Addr) (o : Obj) (pm cd doc dV kV : Value), s₁.heap.get? a = some o →
    o.data = .func { docDef d.name d.params d.body d.scope pm cd doc with defaults := dV, kwdefaults := kV } → s₁.heap.CodeRec cd d.name → Dflts mg s₁.heap d.params kwd dV kV → mg d.name = some (.ref a) → s₁.gens = #[] →
    ∀ (args : List WData) (vals : List Value) (as : List Addr), r.claim.pre args = true → WData.layableAll args = true → ReadsAllW r.records (classAt s₀.heap) s₁.heap vals args as → WellAll w.params s₁.heap vals args → (∀ a ∈ as, (a == sysModules) = false) →
      wpC (model r.prog w) callerA (PySem.call (.ref a) vals) (fun v s' => GoodWG r.claim (classAt s₀.heap) (ExcName.means s₀.heap) args s₁ (.ok (.ret v)) s')
        (fun e s' => GoodWG r.claim (classAt s₀.heap) (ExcName.means s₀.heap) args s₁ (.error e) s') s₁
end
theorem holds_c {r : OpenRow} {q : Program} {loose : List Str} {Xt : Shared → Bool} {XP : (Str → Option Value) → Heap → Prop} {α : Type} {Yf : Shared → α} {Ya : World → α} {YP : World → Heap → Prop} {d : DefRec} {kwd : List (Str × Expr)} {N : Nat}
    (left : LeftO r.prog q loose Xt (fun s => (Yf s, s.heap.get? 63)) (fun w => (Ya w, some (tabObj #[]))) N) (hY : ∀ w s, Yf s = Ya w → YP w s.heap) (hYk : ∀ w h h', YP w h → (∀ b o, h.get? b = some o → h'.get? b = some o) → YP w h')
    (hX : ∀ s, Xt s = true → XP (s.heap.nsMap mainGlobals) s.heap) (hXk : ∀ mg h h', XP mg h → (∀ b o, h.get? b = some o → h'.get? b = some o) → XP mg h')
    (hdef : defOf q r.name = some (d, kwd)) (hp : r.prog.theDef r.name = some (d.params, d.body, d.scope)) (hk : kwWritten? d.params.kwonlyargs d.params.kw_defaults = some kwd) (hRf : ∀ s, Xt s = true → RecFacts r.records s.heap) (hwr : (!r.writes || r.records.isEmpty) = true)
    (k1 : r.wellSaid = true) (ok : (chainsOk q && opensWell r.prog && (frees r.toRowW && r.within.isEmpty)) = true) (hb : r.prog.bare) (hw : r.toRowW.promised)
    (call : WalkC q loose XP YP r d kwd) : r.Holds := by
  have hok := ok
  simp only [Bool.and_eq_true] at hok
  obtain ⟨⟨hch, ho1⟩, hfr, hwn⟩ := hok
  obtain ⟨hsame, hu, ha, hap, hm⟩ := frees_parts hfr
  refine ⟨k1, hw, ⟨hb, ho1, ?_⟩, hw.witness, fun w => ⟨(left.behind hX hch w).1, fun s' hs' => ?_⟩⟩
  · show r.toRowW.makers.map _ = []
    rw [hm]; rfl
  obtain ⟨s₀, hf, hg0, s, hT, hz, hgens, hg, G0, hy⟩ := (left.behind (XP := fun mg h => XP mg h ∧ RecFacts r.records h) (fun s hs => ⟨hX s hs, hRf s hs⟩) hch w).2 s' hs'
  have hgens : s.gens = #[] := Array.eq_empty_of_size_eq_zero (beq_iff_eq.mp hgens)
  have RF := G0.X.2
  have G1 : Ground q loose [] XP w s (s.heap.nsMap mainGlobals) (s.heap.nsMap builtinsNs) s.heap := ⟨G0.T, G0.B, G0.D, G0.TE, G0.TD, G0.W, G0.X.1, G0.cls, G0.has, G0.apart, G0.once, G0.K⟩
  have G : Ground q loose r.records XP w s _ _ s.heap := RF.ground G1
  refine ⟨s₀, hf, hg0, s, hT, fun n hn => ?_, RF.1, RF.2.1, from_C (c := r.claim) hz hgens fun args hpre hlay ord hord => ?_⟩
  · have : n = r.name := by split at hn <;> simp_all
    subst this
    exact pinned_of_view hg G1 hdef hp hk
  · obtain ⟨⟨vs, s₁⟩, hlaid⟩ := Option.isSome_iff_exists.mp (layAllW_isSome (P := w.params) (ord := ord) G.has args r.args s (pre_splitW hpre).1)
    have keeps := layAllW_keeps _ _ _ hlaid
    have hal := layAllW_rest _ _ _ hlaid
    obtain ⟨as, hrd, hin, hold⟩ := reads_layAllW hord _ _ _ hlaid hlay s₁.heap (fun _ _ e => e)
    have LL : Laid r.records w s s₁ args vs as := ⟨⟨ord, hord, hlaid⟩, hrd, hin, hold, keeps, hal.1.trans hgens, hal.2.2.1⟩
    have G₁ := G.keeps hXk keeps
    obtain ⟨a, o, pm, cd, doc, dV, kV, h1, h2, h3, h4, h5⟩ := G₁.fn hdef
    have hmg := h1
    rw [← defOf_name hdef] at hmg
    have h := call w s s₁ _ _ G₁ (hYk _ _ _ (hY w s (Prod.mk.inj hy).1) keeps) (keeps _ _ (Prod.mk.inj hy).2) a o pm cd doc dV kV h2 h3 h4 h5 hmg LL.gens args vs as hpre hlay LL.reads LL.well (LL.low G.low)
    have hi := ident_freeW hu ha hap
    have hwi : r.claim.within = [] := List.isEmpty_iff.mp hwn
    refine ⟨vs, s₁, hlaid, ?_⟩
    refine wpC_then (wpAny_nsGet G₁.T.g ?_)
    rw [h1]
    have fin : ∀ (res : Result) (s' : Shared), GoodWG r.claim (classAt s.heap) (ExcName.means s.heap) args s₁ res s' → (r.claim.Ends s args vs s₁ res s' ∧ s'.os = s.os ∧ (r.writes = true → namesKept r.prog r.keeps s.heap s'.heap ∧ ∀ x ∈ r.records, ∀ a, classAt s.heap x.1 = some a → recordClass s'.heap a x.1 (x.2.map (·.1)) = true)) ∧ AllBare s'.gens := fun res s' g => by
      have z := g.laid (c := r.claim) hsame hwi hi LL
      exact ⟨⟨z.1, z.2.1, fun qq => ⟨namesKept_of hT hg r.keeps keeps g.2.1.old, noTable hwr qq⟩⟩, z.2.2⟩
    exact wpC_bind (wpC_mono h (fun v s' g => wpC_pure ⟨_, rfl, fin _ _ g⟩) fun e s' g => fin _ _ g)
set_option maxHeartbeats 8000000
noncomputable def pickB : List Stmt → List Stmt
  | [a0, _, a2, a3, _, a5, a6, a7, _, a9, _, a11, _, a13, a14, a15, a16, a17] => [a0, a2, a3, a5, a6, a7, a9, a11, a13, a14, a15, a16, a17]
  | l => l
noncomputable def viewB : {l : List Stmt // pickB PySem.Challenge.pw_xo0031_01.main.body = l} := ⟨_, by conv => lhs; whnf⟩
noncomputable def view : Program := { PySem.Challenge.pw_xo0031_01 with main := { PySem.Challenge.pw_xo0031_01.main with body := viewB.1 } }
theorem said : PySem.Challenge.rw_xo0031_01.wellSaid = true := by
  unfold OpenLaw.wellSaid OpenRow.wellSaid OpenRow.partSaid looksOpen
  repeat' with_reducible apply look_both
  all_goals decide +kernel
noncomputable abbrev loo : List Str := [Str.ofString "_Accumulator", Str.ofString "Whitespace"]
noncomputable abbrev xt : Shared → Bool := fun s => xlAt Mine.view [] s && recOk (RowW.records (OpenRow.toRowW PySem.Challenge.rw_xo0031_01.row)) s
theorem holds_both {r : OpenRow} {q : Program} {loose : List Str} {Xt : Shared → Bool} {XP : (Str → Option Value) → Heap → Prop} {α : Type} {Yf : Shared → α} {Ya : World → α} {YP : World → Heap → Prop} {d : DefRec} {kwd : List (Str × Expr)} {N : Nat}
    (hY : ∀ w s, Yf s = Ya w → YP w s.heap) (hYk : ∀ w h h', YP w h → (∀ b o, h.get? b = some o → h'.get? b = some o) → YP w h')
    (hX : ∀ s, Xt s = true → XP (s.heap.nsMap mainGlobals) s.heap) (hXk : ∀ mg h h', XP mg h → (∀ b o, h.get? b = some o → h'.get? b = some o) → XP mg h')
    (hdef : defOf q r.name = some (d, kwd)) (hp : r.prog.theDef r.name = some (d.params, d.body, d.scope)) (hk : kwWritten? d.params.kwonlyargs d.params.kw_defaults = some kwd) (hRf : ∀ s, Xt s = true → RecFacts r.records s.heap) (hwr : (!r.writes || r.records.isEmpty) = true)
    (k1 : r.wellSaid = true) (ok : (chainsOk q && opensWell r.prog && (frees r.toRowW && r.within.isEmpty)) = true) (hb : r.prog.bare) (hw : r.toRowW.promised)
    (both : LeftO r.prog q loose Xt (fun s => (Yf s, s.heap.get? 63)) (fun w => (Ya w, some (tabObj #[]))) N ∧ WalkC q loose XP YP r d kwd) : r.Holds :=
  holds_c both.1 hY hYk hX hXk hdef hp hk hRf hwr k1 ok hb hw both.2
local macro_rules | `(tactic| o_law) => `(tactic| refine holds_law said fun said => ?_)
local macro_rules | `(tactic| o_head $H) => `(tactic| (
  refine holds_both (q := Mine.view) (loose := loo) (Xt := xt) (XP := XL Mine.view []) (Yf := Hook.obs $H) (Ya := Hook.val $H) (YP := Hook.says $H) (N := 2776) (Hook.of $H) (Hook.keeps $H) (fun s e => xl_of s (Bool.and_eq_true_iff.mp e).1) XL.keeps (by rfl) (by rfl) (by rfl) (fun s e => recFacts_of (Bool.and_eq_true_iff.mp e).2) (by rfl) (by first | assumption | decide +kernel) (by decide +kernel) ⟨rfl, rfl, rfl, rfl, rfl, by decide +kernel⟩ ?hw ?hc))
open_top hd for PySem.Challenge.rw_xo0031_01

end
section
noncomputable abbrev asL : List Addr := [2, 3, 15, 17, 18, 20, 21, 22, 25, 30, 31, 32, 34, 35, 37, 38, 39, 41, 42, 44, 45, 46, 47, 49, 50, 52, 53, 54, 55, 57, 58, 60, 61, 62, 64, 65, 67, 68, 69, 71, 72, 74, 75, 76, 77, 79, 80, 82, 83, 84, 86, 87, 89, 90, 91, 92, 94, 95, 97, 98, 99, 100, 101, 102, 103, 106, 108, 109, 111, 112, 113, 115, 116, 118, 119, 130, 132, 133, 135, 136, 137, 139, 140, 142, 143, 144, 146, 147, 149, 150, 151, 153, 154, 156, 157, 158, 160, 161, 163, 164, 165, 167, 168, 170, 171, 172, 174, 175, 177, 178, 179, 180, 181, 182, 183, 186, 188, 189, 191, 192, 193, 195, 196, 198, 199, 200, 203, 204, 205, 207, 208, 210, 211, 212, 215, 216, 217, 220, 221]
noncomputable abbrev RW : OpenRow := PySem.Challenge.rw_xo0031_01.row
noncomputable def tpn : List (Addr × Obj) → Nat → Obj
  | [], _ => { cls := .none, data := .fields #[] }
  | p :: _, 0 => p.2
  | _ :: l, n + 1 => tpn l n
noncomputable def tpf (o : Obj) : Obj := match o.data with
  | .func f => { cls := .none, data := .func { name := f.name, qualname := f.qualname, params := f.params, body := f.body, scope := f.scope, globals := 0, closure := [], defaults := .none, kwdefaults := .none } }
  | _ => o
noncomputable abbrev tpo51 (P : Params) : Obj := tpn (hd.heap_1 P) 2
noncomputable abbrev tpo53 (P : Params) : Obj := tpn (hd.heap_1 P) 3
noncomputable abbrev tpo57 (P : Params) : Obj := tpn (hd.heap_1 P) 6
noncomputable abbrev tpo56 (P : Params) : Obj := tpn (hd.heap_1 P) 5
noncomputable abbrev tpo54 (P : Params) : Obj := tpn (hd.heap_1 P) 4
noncomputable abbrev tpo69 (P : Params) : Obj := tpn (hd.heap_1 P) 10
noncomputable abbrev tpo133 (P : Params) : Obj := tpn (hd.heap_1 P) 57
noncomputable abbrev tpo85 (P : Params) : Obj := tpn (hd.heap_1 P) 22
noncomputable abbrev tpo117 (P : Params) : Obj := tpn (hd.heap_1 P) 45
noncomputable abbrev tpo77 (P : Params) : Obj := tpn (hd.heap_1 P) 16
noncomputable abbrev tpo109 (P : Params) : Obj := tpn (hd.heap_1 P) 39
noncomputable abbrev tpo141 (P : Params) : Obj := tpn (hd.heap_1 P) 64
noncomputable abbrev tpo93 (P : Params) : Obj := tpn (hd.heap_1 P) 28
noncomputable abbrev tpo125 (P : Params) : Obj := tpn (hd.heap_1 P) 51
noncomputable abbrev tpo73 (P : Params) : Obj := tpn (hd.heap_1 P) 13
noncomputable abbrev tpo105 (P : Params) : Obj := tpn (hd.heap_1 P) 36
noncomputable abbrev tpo137 (P : Params) : Obj := tpn (hd.heap_1 P) 60
noncomputable abbrev tpo121 (P : Params) : Obj := tpn (hd.heap_1 P) 48
noncomputable abbrev tpo113 (P : Params) : Obj := tpn (hd.heap_1 P) 42
noncomputable abbrev tpo129 (P : Params) : Obj := tpn (hd.heap_1 P) 54
noncomputable abbrev tpo103 (P : Params) : Obj := tpn (hd.heap_1 P) 35
noncomputable abbrev tpo135 (P : Params) : Obj := tpn (hd.heap_1 P) 58
noncomputable abbrev tpo87 (P : Params) : Obj := tpn (hd.heap_1 P) 23
noncomputable abbrev tpo63 (P : Params) : Obj := tpn (hd.heap_1 P) 8
noncomputable abbrev tpo79 (P : Params) : Obj := tpn (hd.heap_1 P) 17
noncomputable abbrev tpo95 (P : Params) : Obj := tpn (hd.heap_1 P) 29
noncomputable abbrev tpo127 (P : Params) : Obj := tpn (hd.heap_1 P) 52
noncomputable abbrev tpo75 (P : Params) : Obj := tpn (hd.heap_1 P) 14
noncomputable abbrev tpo107 (P : Params) : Obj := tpn (hd.heap_1 P) 38
noncomputable abbrev tpo139 (P : Params) : Obj := tpn (hd.heap_1 P) 62
noncomputable abbrev tpo91 (P : Params) : Obj := tpn (hd.heap_1 P) 26
noncomputable abbrev tpo83 (P : Params) : Obj := tpn (hd.heap_1 P) 20
noncomputable abbrev tpo115 (P : Params) : Obj := tpn (hd.heap_1 P) 44
noncomputable abbrev tpo99 (P : Params) : Obj := tpn (hd.heap_1 P) 32
noncomputable abbrev tpo70 (P : Params) : Obj := tpn (hd.heap_1 P) 11
noncomputable abbrev tpo102 (P : Params) : Obj := tpn (hd.heap_1 P) 34
noncomputable abbrev tpo118 (P : Params) : Obj := tpn (hd.heap_1 P) 46
noncomputable abbrev tpo110 (P : Params) : Obj := tpn (hd.heap_1 P) 40
noncomputable abbrev tpo106 (P : Params) : Obj := tpn (hd.heap_1 P) 37
noncomputable abbrev tpo138 (P : Params) : Obj := tpn (hd.heap_1 P) 61
noncomputable abbrev tpo90 (P : Params) : Obj := tpn (hd.heap_1 P) 25
noncomputable abbrev tpo122 (P : Params) : Obj := tpn (hd.heap_1 P) 49
noncomputable abbrev tpo82 (P : Params) : Obj := tpn (hd.heap_1 P) 19
noncomputable abbrev tpo114 (P : Params) : Obj := tpn (hd.heap_1 P) 43
noncomputable abbrev tpo98 (P : Params) : Obj := tpn (hd.heap_1 P) 31
noncomputable abbrev tpo130 (P : Params) : Obj := tpn (hd.heap_1 P) 55
noncomputable abbrev tpo72 (P : Params) : Obj := tpn (hd.heap_1 P) 12
noncomputable abbrev tpo136 (P : Params) : Obj := tpn (hd.heap_1 P) 59
noncomputable abbrev tpo88 (P : Params) : Obj := tpn (hd.heap_1 P) 24
noncomputable abbrev tpo120 (P : Params) : Obj := tpn (hd.heap_1 P) 47
noncomputable abbrev tpo80 (P : Params) : Obj := tpn (hd.heap_1 P) 18
noncomputable abbrev tpo112 (P : Params) : Obj := tpn (hd.heap_1 P) 41
noncomputable abbrev tpo96 (P : Params) : Obj := tpn (hd.heap_1 P) 30
noncomputable abbrev tpo128 (P : Params) : Obj := tpn (hd.heap_1 P) 53
noncomputable abbrev tpo60 (P : Params) : Obj := tpn (hd.heap_1 P) 7
noncomputable abbrev tpo76 (P : Params) : Obj := tpn (hd.heap_1 P) 15
noncomputable abbrev tpo140 (P : Params) : Obj := tpn (hd.heap_1 P) 63
noncomputable abbrev tpo92 (P : Params) : Obj := tpn (hd.heap_1 P) 27
noncomputable abbrev tpo124 (P : Params) : Obj := tpn (hd.heap_1 P) 50
noncomputable abbrev tpo68 (P : Params) : Obj := tpn (hd.heap_1 P) 9
noncomputable abbrev tpo84 (P : Params) : Obj := tpn (hd.heap_1 P) 21
noncomputable abbrev tpo100 (P : Params) : Obj := tpn (hd.heap_1 P) 33
noncomputable abbrev tpo132 (P : Params) : Obj := tpn (hd.heap_1 P) 56
noncomputable abbrev tpo151 (P : Params) : Obj := tpn (hd.heap_1 P) 68
noncomputable abbrev tpo159 (P : Params) : Obj := tpn (hd.heap_1 P) 74
noncomputable abbrev tpo155 (P : Params) : Obj := tpn (hd.heap_1 P) 71
noncomputable abbrev tpo153 (P : Params) : Obj := tpn (hd.heap_1 P) 70
noncomputable abbrev tpo149 (P : Params) : Obj := tpn (hd.heap_1 P) 67
noncomputable abbrev tpo152 (P : Params) : Obj := tpn (hd.heap_1 P) 69
noncomputable abbrev tpo156 (P : Params) : Obj := tpn (hd.heap_1 P) 72
noncomputable abbrev tpo148 (P : Params) : Obj := tpn (hd.heap_1 P) 66
noncomputable abbrev tpo146 (P : Params) : Obj := tpn (hd.heap_1 P) 65
noncomputable abbrev tpo158 (P : Params) : Obj := tpn (hd.heap_1 P) 73
noncomputable abbrev tpo185 (P : Params) : Obj := tpn (hd.heap_1 P) 84
noncomputable abbrev tpo217 (P : Params) : Obj := tpn (hd.heap_1 P) 107
noncomputable abbrev tpo177 (P : Params) : Obj := tpn (hd.heap_1 P) 78
noncomputable abbrev tpo209 (P : Params) : Obj := tpn (hd.heap_1 P) 101
noncomputable abbrev tpo193 (P : Params) : Obj := tpn (hd.heap_1 P) 90
noncomputable abbrev tpo225 (P : Params) : Obj := tpn (hd.heap_1 P) 114
noncomputable abbrev tpo205 (P : Params) : Obj := tpn (hd.heap_1 P) 98
noncomputable abbrev tpo189 (P : Params) : Obj := tpn (hd.heap_1 P) 87
noncomputable abbrev tpo221 (P : Params) : Obj := tpn (hd.heap_1 P) 110
noncomputable abbrev tpo181 (P : Params) : Obj := tpn (hd.heap_1 P) 81
noncomputable abbrev tpo213 (P : Params) : Obj := tpn (hd.heap_1 P) 104
noncomputable abbrev tpo203 (P : Params) : Obj := tpn (hd.heap_1 P) 97
noncomputable abbrev tpo219 (P : Params) : Obj := tpn (hd.heap_1 P) 108
noncomputable abbrev tpo179 (P : Params) : Obj := tpn (hd.heap_1 P) 80
noncomputable abbrev tpo195 (P : Params) : Obj := tpn (hd.heap_1 P) 91
noncomputable abbrev tpo175 (P : Params) : Obj := tpn (hd.heap_1 P) 77
noncomputable abbrev tpo207 (P : Params) : Obj := tpn (hd.heap_1 P) 100
noncomputable abbrev tpo191 (P : Params) : Obj := tpn (hd.heap_1 P) 88
noncomputable abbrev tpo223 (P : Params) : Obj := tpn (hd.heap_1 P) 112
noncomputable abbrev tpo199 (P : Params) : Obj := tpn (hd.heap_1 P) 94
noncomputable abbrev tpo202 (P : Params) : Obj := tpn (hd.heap_1 P) 96
noncomputable abbrev tpo186 (P : Params) : Obj := tpn (hd.heap_1 P) 85
noncomputable abbrev tpo178 (P : Params) : Obj := tpn (hd.heap_1 P) 79
noncomputable abbrev tpo210 (P : Params) : Obj := tpn (hd.heap_1 P) 102
noncomputable abbrev tpo174 (P : Params) : Obj := tpn (hd.heap_1 P) 76
noncomputable abbrev tpo206 (P : Params) : Obj := tpn (hd.heap_1 P) 99
noncomputable abbrev tpo222 (P : Params) : Obj := tpn (hd.heap_1 P) 111
noncomputable abbrev tpo182 (P : Params) : Obj := tpn (hd.heap_1 P) 82
noncomputable abbrev tpo214 (P : Params) : Obj := tpn (hd.heap_1 P) 105
noncomputable abbrev tpo198 (P : Params) : Obj := tpn (hd.heap_1 P) 93
noncomputable abbrev tpo172 (P : Params) : Obj := tpn (hd.heap_1 P) 75
noncomputable abbrev tpo188 (P : Params) : Obj := tpn (hd.heap_1 P) 86
noncomputable abbrev tpo220 (P : Params) : Obj := tpn (hd.heap_1 P) 109
noncomputable abbrev tpo212 (P : Params) : Obj := tpn (hd.heap_1 P) 103
noncomputable abbrev tpo196 (P : Params) : Obj := tpn (hd.heap_1 P) 92
noncomputable abbrev tpo192 (P : Params) : Obj := tpn (hd.heap_1 P) 89
noncomputable abbrev tpo224 (P : Params) : Obj := tpn (hd.heap_1 P) 113
noncomputable abbrev tpo184 (P : Params) : Obj := tpn (hd.heap_1 P) 83
noncomputable abbrev tpo216 (P : Params) : Obj := tpn (hd.heap_1 P) 106
noncomputable abbrev tpo200 (P : Params) : Obj := tpn (hd.heap_1 P) 95
noncomputable abbrev tpo230 (P : Params) : Obj := tpn (hd.heap_1 P) 1
noncomputable abbrev tpo237 (P : Params) : Obj := tpn (hd.heap_1 P) 118
noncomputable abbrev tpo253 (P : Params) : Obj := tpn (hd.heap_1 P) 129
noncomputable abbrev tpo245 (P : Params) : Obj := tpn (hd.heap_1 P) 124
noncomputable abbrev tpo261 (P : Params) : Obj := tpn (hd.heap_1 P) 134
noncomputable abbrev tpo241 (P : Params) : Obj := tpn (hd.heap_1 P) 121
noncomputable abbrev tpo257 (P : Params) : Obj := tpn (hd.heap_1 P) 132
noncomputable abbrev tpo249 (P : Params) : Obj := tpn (hd.heap_1 P) 126
noncomputable abbrev tpo239 (P : Params) : Obj := tpn (hd.heap_1 P) 120
noncomputable abbrev tpo263 (P : Params) : Obj := tpn (hd.heap_1 P) 136
noncomputable abbrev tpo251 (P : Params) : Obj := tpn (hd.heap_1 P) 128
noncomputable abbrev tpo267 (P : Params) : Obj := tpn (hd.heap_1 P) 138
noncomputable abbrev tpo235 (P : Params) : Obj := tpn (hd.heap_1 P) 117
noncomputable abbrev tpo238 (P : Params) : Obj := tpn (hd.heap_1 P) 119
noncomputable abbrev tpo254 (P : Params) : Obj := tpn (hd.heap_1 P) 130
noncomputable abbrev tpo246 (P : Params) : Obj := tpn (hd.heap_1 P) 125
noncomputable abbrev tpo262 (P : Params) : Obj := tpn (hd.heap_1 P) 135
noncomputable abbrev tpo242 (P : Params) : Obj := tpn (hd.heap_1 P) 122
noncomputable abbrev tpo258 (P : Params) : Obj := tpn (hd.heap_1 P) 133
noncomputable abbrev tpo250 (P : Params) : Obj := tpn (hd.heap_1 P) 127
noncomputable abbrev tpo266 (P : Params) : Obj := tpn (hd.heap_1 P) 137
noncomputable abbrev tpo234 (P : Params) : Obj := tpn (hd.heap_1 P) 116
noncomputable abbrev tpo256 (P : Params) : Obj := tpn (hd.heap_1 P) 131
noncomputable abbrev tpo232 (P : Params) : Obj := tpn (hd.heap_1 P) 115
noncomputable abbrev tpo244 (P : Params) : Obj := tpn (hd.heap_1 P) 123
noncomputable def tpo43 (P : Params) : Obj := { cls := Value.type "tuple", data := Data.seq #[] }
noncomputable def tpo44 (P : Params) : Obj := { cls := Value.none, data := Data.fields #[] }
noncomputable def tpo45 (P : Params) : Obj := { cls := Value.type "code", data := Data.fields #[Value.str (Str.ofString "<module>") 182, Value.str (Str.ofString "<module>") 183, Value.str (Str.ofString "/claim/cut.py") 184, Value.int 1 0, Value.int 0 0, Value.int 0 0, Value.int 0 0, Value.int 0 0, Value.ref 11, Value.bool Bool.false, Value.int 181 0, Value.ref 12, Value.none, Value.none, Value.none, Value.none, Value.int 185 0, Value.int 1 0, Value.str (Str.ofString "/claim/cut.py") 186] }
noncomputable def tpo46 (P : Params) : Obj := { cls := Value.type "frame", slots := #[Option.some (Value.ref 13), Option.some (Value.ref 3), Option.some (Value.ref 3), Option.none, Option.some (Value.str (Str.ofString "__main__") 164), Option.none, Option.some (Value.ref 0)] }
noncomputable def tpo49 (P : Params) : Obj := { cls := Value.type "dict", data := Data.dict #[{ hash := PySem.PyData.keyHash P (Str.ofString "__name__"), key := Value.str (Str.ofString "__name__") 165, val := Value.str (Str.ofString "cpy313.email.header") 194 }, { hash := PySem.PyData.keyHash P (Str.ofString "__doc__"), key := Value.str (Str.ofString "__doc__") 166, val := Value.none }, { hash := PySem.PyData.keyHash P (Str.ofString "__package__"), key := Value.str (Str.ofString "__package__") 167, val := Value.none }, { hash := PySem.PyData.keyHash P (Str.ofString "__loader__"), key := Value.str (Str.ofString "__loader__") 168, val := Value.builtin "__main__.__loader__#opaque" }, { hash := PySem.PyData.keyHash P (Str.ofString "__spec__"), key := Value.str (Str.ofString "__spec__") 169, val := Value.none }, { hash := PySem.PyData.keyHash P (Str.ofString "__annotations__"), key := Value.str (Str.ofString "__annotations__") 170, val := Value.ref 6 }, { hash := PySem.PyData.keyHash P (Str.ofString "__builtins__"), key := Value.str (Str.ofString "__builtins__") 171, val := Value.ref 4 }, { hash := PySem.PyData.keyHash P (Str.ofString "__file__"), key := Value.str (Str.ofString "__file__") 173, val := Value.str (Str.ofString "/claim/cut.py") 172 }, { hash := PySem.PyData.keyHash P (Str.ofString "__cached__"), key := Value.str (Str.ofString "__cached__") 174, val := Value.none }, { hash := PySem.PyData.keyHash P (Str.ofString "_wall"), key := Value.str (Str.ofString "_wall") 193, val := Value.ref 21 }, { hash := PySem.PyData.keyHash P (Str.ofString "EMPTYSTRING"), key := Value.str (Str.ofString "EMPTYSTRING") 197, val := Value.str (Str.ofString "") 196 }] 11 }
noncomputable def tpo55 (P : Params) : Obj := tpf (tpo57 P)
noncomputable def tpo52 (P : Params) : Obj := { cls := Value.none, data := Data.fields #[] }
noncomputable def tpo50 (P : Params) : Obj := { cls := Value.none, data := Data.fields #[Value.int 1 0, Value.int 0 0, Value.ref 20] }
noncomputable def tpo58 (P : Params) : Obj := { cls := Value.type "dict", data := Data.dict #[{ hash := PySem.PyData.keyHash P (Str.ofString "__name__"), key := Value.str (Str.ofString "__name__") 165, val := Value.str (Str.ofString "cpy313.email.header") 194 }, { hash := PySem.PyData.keyHash P (Str.ofString "__doc__"), key := Value.str (Str.ofString "__doc__") 166, val := Value.none }, { hash := PySem.PyData.keyHash P (Str.ofString "__package__"), key := Value.str (Str.ofString "__package__") 167, val := Value.none }, { hash := PySem.PyData.keyHash P (Str.ofString "__loader__"), key := Value.str (Str.ofString "__loader__") 168, val := Value.builtin "__main__.__loader__#opaque" }, { hash := PySem.PyData.keyHash P (Str.ofString "__spec__"), key := Value.str (Str.ofString "__spec__") 169, val := Value.none }, { hash := PySem.PyData.keyHash P (Str.ofString "__annotations__"), key := Value.str (Str.ofString "__annotations__") 170, val := Value.ref 6 }, { hash := PySem.PyData.keyHash P (Str.ofString "__builtins__"), key := Value.str (Str.ofString "__builtins__") 171, val := Value.ref 4 }, { hash := PySem.PyData.keyHash P (Str.ofString "__file__"), key := Value.str (Str.ofString "__file__") 173, val := Value.str (Str.ofString "/claim/cut.py") 172 }, { hash := PySem.PyData.keyHash P (Str.ofString "__cached__"), key := Value.str (Str.ofString "__cached__") 174, val := Value.none }, { hash := PySem.PyData.keyHash P (Str.ofString "_wall"), key := Value.str (Str.ofString "_wall") 193, val := Value.ref 21 }, { hash := PySem.PyData.keyHash P (Str.ofString "EMPTYSTRING"), key := Value.str (Str.ofString "EMPTYSTRING") 197, val := Value.str (Str.ofString "") 196 }, { hash := PySem.PyData.keyHash P (Str.ofString "_Accumulator"), key := Value.str (Str.ofString "_Accumulator") 292, val := Value.ref 101 }] 12 }
noncomputable def tpo101 (P : Params) : Obj := { cls := Value.none, data := Data.fields #[] }
noncomputable def tpo61 (P : Params) : Obj := { cls := Value.type "builtin_function_or_method", data := Data.fields #[Value.builtin "type.__prepare__", Value.type "type"] }
noncomputable def tpo89 (P : Params) : Obj := tpf (tpo91 P)
noncomputable def tpo65 (P : Params) : Obj := { cls := Value.none, data := Data.fields #[Value.int 8 0, Value.int 4 0, Value.ref 37, Value.int 12 0, Value.int 4 0, Value.ref 44, Value.int 15 0, Value.int 4 0, Value.ref 52, Value.int 18 0, Value.int 4 0, Value.ref 60, Value.int 23 0, Value.int 4 0, Value.ref 67, Value.int 26 0, Value.int 4 0, Value.ref 74, Value.int 29 0, Value.int 4 0, Value.ref 82, Value.int 32 0, Value.int 4 0, Value.ref 89, Value.int 35 0, Value.int 4 0, Value.ref 97] }
noncomputable def tpo81 (P : Params) : Obj := tpf (tpo83 P)
noncomputable def tpo97 (P : Params) : Obj := tpf (tpo99 P)
noncomputable def tpo71 (P : Params) : Obj := { cls := Value.none, data := Data.fields #[] }
noncomputable def tpo119 (P : Params) : Obj := tpf (tpo121 P)
noncomputable def tpo111 (P : Params) : Obj := tpf (tpo113 P)
noncomputable def tpo143 (P : Params) : Obj := { cls := Value.type "builtin_function_or_method", data := Data.fields #[Value.builtin "object.__init_subclass__", Value.ref 101] }
noncomputable def tpo123 (P : Params) : Obj := { cls := Value.none, data := Data.fields #[] }
noncomputable def tpo67 (P : Params) : Obj := { cls := Value.type "frame", slots := #[Option.some (Value.ref 28), Option.some (Value.ref 3), Option.some (Value.ref 24), Option.none, Option.some (Value.str (Str.ofString "cpy313.email.header") 194), Option.none, Option.some (Value.ref 0)] }
noncomputable def tpo131 (P : Params) : Obj := { cls := Value.none, data := Data.fields #[] }
noncomputable def tpo134 (P : Params) : Obj := tpf (tpo136 P)
noncomputable def tpo86 (P : Params) : Obj := { cls := Value.none, data := Data.fields #[] }
noncomputable def tpo62 (P : Params) : Obj := { cls := Value.type "dict", data := Data.dict #[{ hash := PySem.PyData.keyHash P (Str.ofString "__module__"), key := Value.str (Str.ofString "__module__") 205, val := Value.str (Str.ofString "cpy313.email.header") 194 }, { hash := PySem.PyData.keyHash P (Str.ofString "__qualname__"), key := Value.str (Str.ofString "__qualname__") 207, val := Value.str (Str.ofString "_Accumulator") 206 }, { hash := PySem.PyData.keyHash P (Str.ofString "__firstlineno__"), key := Value.str (Str.ofString "__firstlineno__") 209, val := Value.int 6 208 }, { hash := PySem.PyData.keyHash P (Str.ofString "__init__"), key := Value.str (Str.ofString "__init__") 219, val := Value.ref 38 }, { hash := PySem.PyData.keyHash P (Str.ofString "push"), key := Value.str (Str.ofString "push") 228, val := Value.ref 45 }, { hash := PySem.PyData.keyHash P (Str.ofString "pop_from"), key := Value.str (Str.ofString "pop_from") 237, val := Value.ref 53 }, { hash := PySem.PyData.keyHash P (Str.ofString "pop"), key := Value.str (Str.ofString "pop") 245, val := Value.ref 61 }, { hash := PySem.PyData.keyHash P (Str.ofString "__len__"), key := Value.str (Str.ofString "__len__") 252, val := Value.ref 68 }, { hash := PySem.PyData.keyHash P (Str.ofString "__str__"), key := Value.str (Str.ofString "__str__") 259, val := Value.ref 75 }, { hash := PySem.PyData.keyHash P (Str.ofString "reset"), key := Value.str (Str.ofString "reset") 267, val := Value.ref 83 }, { hash := PySem.PyData.keyHash P (Str.ofString "is_onlyws"), key := Value.str (Str.ofString "is_onlyws") 274, val := Value.ref 90 }, { hash := PySem.PyData.keyHash P (Str.ofString "part_count"), key := Value.str (Str.ofString "part_count") 282, val := Value.ref 98 }, { hash := PySem.PyData.keyHash P (Str.ofString "__static_attributes__"), key := Value.str (Str.ofString "__static_attributes__") 284, val := Value.ref 99 }, { hash := PySem.PyData.keyHash P (Str.ofString "__classcell__"), key := Value.str (Str.ofString "__classcell__") 285, val := Value.ref 25 }] 14 }
noncomputable def tpo78 (P : Params) : Obj := { cls := Value.none, data := Data.fields #[] }
noncomputable def tpo142 (P : Params) : Obj := { cls := Value.type "super", data := Data.fields #[Value.ref 101, Value.ref 101, Value.ref 101] }
noncomputable def tpo94 (P : Params) : Obj := { cls := Value.none, data := Data.fields #[] }
noncomputable def tpo126 (P : Params) : Obj := tpf (tpo128 P)
noncomputable def tpo59 (P : Params) : Obj := { cls := Value.none, data := Data.fields #[Value.int 1 0, Value.int 0 0, Value.ref 20, Value.int 6 0, Value.int 0 0, Value.ref 28] }
noncomputable def tpo74 (P : Params) : Obj := tpf (tpo76 P)
noncomputable def tpo66 (P : Params) : Obj := { cls := Value.type "code", data := Data.fields #[Value.str (Str.ofString "_Accumulator") 200, Value.str (Str.ofString "_Accumulator") 201, Value.str (Str.ofString "/claim/cut.py") 202, Value.int 6 0, Value.int 0 0, Value.int 0 0, Value.int 0 0, Value.int 0 0, Value.ref 26, Value.bool Bool.false, Value.int 181 0, Value.ref 27, Value.none, Value.none, Value.none, Value.none, Value.int 203 0, Value.int 6 0, Value.str (Str.ofString "/claim/cut.py") 204] }
noncomputable def tpo104 (P : Params) : Obj := tpf (tpo106 P)
noncomputable def tpo64 (P : Params) : Obj := { cls := Value.type "tuple", data := Data.seq #[] }
noncomputable def tpo108 (P : Params) : Obj := { cls := Value.none, data := Data.fields #[] }
noncomputable def tpo116 (P : Params) : Obj := { cls := Value.none, data := Data.fields #[] }
noncomputable def tpo144 (P : Params) : Obj := { cls := Value.type "dict", data := Data.dict #[{ hash := PySem.PyData.keyHash P (Str.ofString "__name__"), key := Value.str (Str.ofString "__name__") 165, val := Value.str (Str.ofString "cpy313.tabnanny") 316 }, { hash := PySem.PyData.keyHash P (Str.ofString "__doc__"), key := Value.str (Str.ofString "__doc__") 166, val := Value.none }, { hash := PySem.PyData.keyHash P (Str.ofString "__package__"), key := Value.str (Str.ofString "__package__") 167, val := Value.none }, { hash := PySem.PyData.keyHash P (Str.ofString "__loader__"), key := Value.str (Str.ofString "__loader__") 168, val := Value.builtin "__main__.__loader__#opaque" }, { hash := PySem.PyData.keyHash P (Str.ofString "__spec__"), key := Value.str (Str.ofString "__spec__") 169, val := Value.none }, { hash := PySem.PyData.keyHash P (Str.ofString "__annotations__"), key := Value.str (Str.ofString "__annotations__") 170, val := Value.ref 6 }, { hash := PySem.PyData.keyHash P (Str.ofString "__builtins__"), key := Value.str (Str.ofString "__builtins__") 171, val := Value.ref 4 }, { hash := PySem.PyData.keyHash P (Str.ofString "__file__"), key := Value.str (Str.ofString "__file__") 173, val := Value.str (Str.ofString "/claim/cut.py") 172 }, { hash := PySem.PyData.keyHash P (Str.ofString "__cached__"), key := Value.str (Str.ofString "__cached__") 174, val := Value.none }, { hash := PySem.PyData.keyHash P (Str.ofString "_wall"), key := Value.str (Str.ofString "_wall") 193, val := Value.ref 21 }, { hash := PySem.PyData.keyHash P (Str.ofString "EMPTYSTRING"), key := Value.str (Str.ofString "EMPTYSTRING") 197, val := Value.str (Str.ofString "") 196 }, { hash := PySem.PyData.keyHash P (Str.ofString "_Accumulator"), key := Value.str (Str.ofString "_Accumulator") 292, val := Value.ref 101 }, { hash := PySem.PyData.keyHash P (Str.ofString "CHAR_MAX"), key := Value.str (Str.ofString "CHAR_MAX") 296, val := Value.int 127 295 }, { hash := PySem.PyData.keyHash P (Str.ofString "_grouping_intervals"), key := Value.str (Str.ofString "_grouping_intervals") 305, val := Value.ref 112 }, { hash := PySem.PyData.keyHash P (Str.ofString "_strip_padding"), key := Value.str (Str.ofString "_strip_padding") 315, val := Value.ref 119 }] 15 }
noncomputable def tpo147 (P : Params) : Obj := { cls := Value.none, data := Data.fields #[] }
noncomputable def tpo157 (P : Params) : Obj := tpf (tpo159 P)
noncomputable def tpo145 (P : Params) : Obj := { cls := Value.none, data := Data.fields #[Value.int 1 0, Value.int 0 0, Value.ref 20, Value.int 6 0, Value.int 0 0, Value.ref 28, Value.int 39 0, Value.int 0 0, Value.ref 111, Value.int 51 0, Value.int 0 0, Value.ref 118] }
noncomputable def tpo154 (P : Params) : Obj := { cls := Value.none, data := Data.fields #[] }
noncomputable def tpo150 (P : Params) : Obj := tpf (tpo152 P)
noncomputable def tpo160 (P : Params) : Obj := { cls := Value.type "dict", data := Data.dict #[{ hash := PySem.PyData.keyHash P (Str.ofString "__name__"), key := Value.str (Str.ofString "__name__") 165, val := Value.str (Str.ofString "cpy313.tabnanny") 316 }, { hash := PySem.PyData.keyHash P (Str.ofString "__doc__"), key := Value.str (Str.ofString "__doc__") 166, val := Value.none }, { hash := PySem.PyData.keyHash P (Str.ofString "__package__"), key := Value.str (Str.ofString "__package__") 167, val := Value.none }, { hash := PySem.PyData.keyHash P (Str.ofString "__loader__"), key := Value.str (Str.ofString "__loader__") 168, val := Value.builtin "__main__.__loader__#opaque" }, { hash := PySem.PyData.keyHash P (Str.ofString "__spec__"), key := Value.str (Str.ofString "__spec__") 169, val := Value.none }, { hash := PySem.PyData.keyHash P (Str.ofString "__annotations__"), key := Value.str (Str.ofString "__annotations__") 170, val := Value.ref 6 }, { hash := PySem.PyData.keyHash P (Str.ofString "__builtins__"), key := Value.str (Str.ofString "__builtins__") 171, val := Value.ref 4 }, { hash := PySem.PyData.keyHash P (Str.ofString "__file__"), key := Value.str (Str.ofString "__file__") 173, val := Value.str (Str.ofString "/claim/cut.py") 172 }, { hash := PySem.PyData.keyHash P (Str.ofString "__cached__"), key := Value.str (Str.ofString "__cached__") 174, val := Value.none }, { hash := PySem.PyData.keyHash P (Str.ofString "_wall"), key := Value.str (Str.ofString "_wall") 193, val := Value.ref 21 }, { hash := PySem.PyData.keyHash P (Str.ofString "EMPTYSTRING"), key := Value.str (Str.ofString "EMPTYSTRING") 197, val := Value.str (Str.ofString "") 196 }, { hash := PySem.PyData.keyHash P (Str.ofString "_Accumulator"), key := Value.str (Str.ofString "_Accumulator") 292, val := Value.ref 101 }, { hash := PySem.PyData.keyHash P (Str.ofString "CHAR_MAX"), key := Value.str (Str.ofString "CHAR_MAX") 296, val := Value.int 127 295 }, { hash := PySem.PyData.keyHash P (Str.ofString "_grouping_intervals"), key := Value.str (Str.ofString "_grouping_intervals") 305, val := Value.ref 112 }, { hash := PySem.PyData.keyHash P (Str.ofString "_strip_padding"), key := Value.str (Str.ofString "_strip_padding") 315, val := Value.ref 119 }, { hash := PySem.PyData.keyHash P (Str.ofString "Whitespace"), key := Value.str (Str.ofString "Whitespace") 411, val := Value.ref 181 }] 16 }
noncomputable def tpo169 (P : Params) : Obj := { cls := Value.type "str_ascii_iterator", data := Data.fields #[Value.none, Value.int 2 0] }
noncomputable def tpo201 (P : Params) : Obj := { cls := Value.none, data := Data.fields #[] }
noncomputable def tpo173 (P : Params) : Obj := { cls := Value.none, data := Data.fields #[] }
noncomputable def tpo197 (P : Params) : Obj := tpf (tpo199 P)
noncomputable def tpo165 (P : Params) : Obj := { cls := Value.type "tuple", data := Data.seq #[] }
noncomputable def tpo171 (P : Params) : Obj := { cls := Value.type "StopIteration", data := Data.fields #[Value.ref 128, Value.none, Value.none, Value.none, Value.bool Bool.false, Value.none] }
noncomputable def tpo187 (P : Params) : Obj := { cls := Value.none, data := Data.fields #[] }
noncomputable def tpo211 (P : Params) : Obj := tpf (tpo213 P)
noncomputable def tpo163 (P : Params) : Obj := { cls := Value.type "builtin_function_or_method", data := Data.fields #[Value.builtin "type.__prepare__", Value.type "type"] }
noncomputable def tpo227 (P : Params) : Obj := { cls := Value.type "builtin_function_or_method", data := Data.fields #[Value.builtin "object.__init_subclass__", Value.ref 181] }
noncomputable def tpo183 (P : Params) : Obj := tpf (tpo185 P)
noncomputable def tpo215 (P : Params) : Obj := { cls := Value.none, data := Data.fields #[] }
noncomputable def tpo167 (P : Params) : Obj := { cls := Value.type "code", data := Data.fields #[Value.str (Str.ofString "Whitespace") 320, Value.str (Str.ofString "Whitespace") 321, Value.str (Str.ofString "/claim/cut.py") 322, Value.int 62 0, Value.int 0 0, Value.int 0 0, Value.int 0 0, Value.int 0 0, Value.ref 123, Value.bool Bool.false, Value.int 181 0, Value.ref 124, Value.none, Value.none, Value.none, Value.none, Value.int 323 0, Value.int 62 0, Value.str (Str.ofString "/claim/cut.py") 324] }
noncomputable def tpo170 (P : Params) : Obj := { cls := Value.type "tuple", data := Data.seq #[] }
noncomputable def tpo218 (P : Params) : Obj := tpf (tpo220 P)
noncomputable def tpo194 (P : Params) : Obj := { cls := Value.none, data := Data.fields #[] }
noncomputable def tpo162 (P : Params) : Obj := { cls := Value.type "tuple", data := Data.seq #[] }
noncomputable def tpo226 (P : Params) : Obj := { cls := Value.type "super", data := Data.fields #[Value.ref 181, Value.ref 181, Value.ref 181] }
noncomputable def tpo161 (P : Params) : Obj := { cls := Value.none, data := Data.fields #[Value.int 1 0, Value.int 0 0, Value.ref 20, Value.int 6 0, Value.int 0 0, Value.ref 28, Value.int 39 0, Value.int 0 0, Value.ref 111, Value.int 51 0, Value.int 0 0, Value.ref 118, Value.int 62 0, Value.int 0 0, Value.ref 125] }
noncomputable def tpo190 (P : Params) : Obj := tpf (tpo192 P)
noncomputable def tpo166 (P : Params) : Obj := { cls := Value.none, data := Data.fields #[Value.int 65 0, Value.int 4 0, Value.ref 135, Value.int 88 0, Value.int 4 0, Value.ref 142, Value.int 92 0, Value.int 4 0, Value.ref 149, Value.int 95 0, Value.int 4 0, Value.ref 156, Value.int 98 0, Value.int 4 0, Value.ref 163, Value.int 101 0, Value.int 4 0, Value.ref 170, Value.int 104 0, Value.int 4 0, Value.ref 177] }
noncomputable def tpo204 (P : Params) : Obj := tpf (tpo206 P)
noncomputable def tpo180 (P : Params) : Obj := { cls := Value.none, data := Data.fields #[] }
noncomputable def tpo164 (P : Params) : Obj := { cls := Value.type "dict", data := Data.dict #[{ hash := PySem.PyData.keyHash P (Str.ofString "__module__"), key := Value.str (Str.ofString "__module__") 325, val := Value.str (Str.ofString "cpy313.tabnanny") 316 }, { hash := PySem.PyData.keyHash P (Str.ofString "__qualname__"), key := Value.str (Str.ofString "__qualname__") 327, val := Value.str (Str.ofString "Whitespace") 326 }, { hash := PySem.PyData.keyHash P (Str.ofString "__firstlineno__"), key := Value.str (Str.ofString "__firstlineno__") 329, val := Value.int 62 328 }, { hash := PySem.PyData.keyHash P (Str.ofString "S"), key := Value.str (Str.ofString "S") 333, val := Value.str (Str.ofString " ") 331 }, { hash := PySem.PyData.keyHash P (Str.ofString "T"), key := Value.str (Str.ofString "T") 334, val := Value.str (Str.ofString "\t") 332 }, { hash := PySem.PyData.keyHash P (Str.ofString "__init__"), key := Value.str (Str.ofString "__init__") 349, val := Value.ref 136 }, { hash := PySem.PyData.keyHash P (Str.ofString "longest_run_of_spaces"), key := Value.str (Str.ofString "longest_run_of_spaces") 358, val := Value.ref 143 }, { hash := PySem.PyData.keyHash P (Str.ofString "indent_level"), key := Value.str (Str.ofString "indent_level") 366, val := Value.ref 150 }, { hash := PySem.PyData.keyHash P (Str.ofString "equal"), key := Value.str (Str.ofString "equal") 374, val := Value.ref 157 }, { hash := PySem.PyData.keyHash P (Str.ofString "not_equal_witness"), key := Value.str (Str.ofString "not_equal_witness") 382, val := Value.ref 164 }, { hash := PySem.PyData.keyHash P (Str.ofString "less"), key := Value.str (Str.ofString "less") 390, val := Value.ref 171 }, { hash := PySem.PyData.keyHash P (Str.ofString "not_less_witness"), key := Value.str (Str.ofString "not_less_witness") 398, val := Value.ref 178 }, { hash := PySem.PyData.keyHash P (Str.ofString "__static_attributes__"), key := Value.str (Str.ofString "__static_attributes__") 404, val := Value.ref 179 }] 13 }
noncomputable def tpo176 (P : Params) : Obj := tpf (tpo178 P)
noncomputable def tpo208 (P : Params) : Obj := { cls := Value.none, data := Data.fields #[] }
noncomputable def tpo168 (P : Params) : Obj := { cls := Value.type "frame", slots := #[Option.some (Value.ref 125), Option.some (Value.ref 3), Option.some (Value.ref 122), Option.none, Option.some (Value.str (Str.ofString "cpy313.tabnanny") 316), Option.none, Option.some (Value.ref 0)] }
noncomputable def tpo265 (P : Params) : Obj := tpf (tpo267 P)
noncomputable def tpo233 (P : Params) : Obj := { cls := Value.none, data := Data.fields #[] }
noncomputable def tpo255 (P : Params) : Obj := tpf (tpo257 P)
noncomputable def tpo247 (P : Params) : Obj := { cls := Value.none, data := Data.fields #[] }
noncomputable def tpo243 (P : Params) : Obj := tpf (tpo245 P)
noncomputable def tpo259 (P : Params) : Obj := { cls := Value.none, data := Data.fields #[] }
noncomputable def tpo231 (P : Params) : Obj := { cls := Value.none, data := Data.fields #[Value.int 1 0, Value.int 0 0, Value.ref 20, Value.int 6 0, Value.int 0 0, Value.ref 28, Value.int 39 0, Value.int 0 0, Value.ref 111, Value.int 51 0, Value.int 0 0, Value.ref 118, Value.int 62 0, Value.int 0 0, Value.ref 125, Value.int 107 0, Value.int 0 0, Value.ref 191, Value.int 114 0, Value.int 0 0, Value.ref 198, Value.int 129 0, Value.int 0 0, Value.ref 203, Value.int 131 0, Value.int 0 0, Value.ref 210, Value.int 144 0, Value.int 0 0, Value.ref 215, Value.int 147 0, Value.int 0 0, Value.ref 220] }
noncomputable def tpo240 (P : Params) : Obj := { cls := Value.none, data := Data.fields #[] }
noncomputable def tpo248 (P : Params) : Obj := tpf (tpo250 P)
noncomputable def tpo264 (P : Params) : Obj := { cls := Value.none, data := Data.fields #[] }
noncomputable def tpo260 (P : Params) : Obj := tpf (tpo262 P)
noncomputable def tpo252 (P : Params) : Obj := { cls := Value.none, data := Data.fields #[] }
noncomputable def tpo236 (P : Params) : Obj := tpf (tpo238 P)
noncomputable def tpha (P : Params) : Heap := { objs := { toList := [boot_o_0 P, boot_o_1 P, boot_o_2 P, boot_o_3 P, boot_o_4 P, boot_o_5 P, boot_o_6 P, boot_o_7 P, boot_o_8 P, boot_o_9 P, boot_o_10 P, tpo43 P, tpo44 P, tpo45 P, tpo46 P] } }
noncomputable def tpt0 (P : Params) : BT := BT.node (boot_o_0 P) (BT.node (boot_o_1 P) (BT.node (boot_o_3 P) (BT.node (boot_o_7 P) BT.nil BT.nil) (BT.node (tpo43 P) BT.nil BT.nil)) (BT.node (boot_o_5 P) (BT.node (boot_o_9 P) BT.nil BT.nil) (BT.node (tpo45 P) BT.nil BT.nil))) (BT.node (boot_o_2 P) (BT.node (boot_o_4 P) (BT.node (boot_o_8 P) BT.nil BT.nil) (BT.node (tpo44 P) BT.nil BT.nil)) (BT.node (boot_o_6 P) (BT.node (boot_o_10 P) BT.nil BT.nil) (BT.node (tpo46 P) BT.nil BT.nil)))
noncomputable def tpt1 (P : Params) : BT := BT.node (boot_o_0 P) (BT.node (boot_o_1 P) (BT.node (tpo49 P) (BT.node (boot_o_7 P) (BT.node (tpo51 P) BT.nil BT.nil) BT.nil) (BT.node (tpo43 P) (BT.node (tpo55 P) BT.nil BT.nil) BT.nil)) (BT.node (boot_o_5 P) (BT.node (boot_o_9 P) (BT.node (tpo53 P) BT.nil BT.nil) BT.nil) (BT.node (tpo45 P) (BT.node (tpo57 P) BT.nil BT.nil) BT.nil))) (BT.node (boot_o_2 P) (BT.node (boot_o_4 P) (BT.node (boot_o_8 P) (BT.node (tpo52 P) BT.nil BT.nil) BT.nil) (BT.node (tpo50 P) (BT.node (tpo56 P) BT.nil BT.nil) BT.nil)) (BT.node (boot_o_6 P) (BT.node (boot_o_10 P) (BT.node (tpo54 P) BT.nil BT.nil) BT.nil) (BT.node (tpo46 P) BT.nil BT.nil)))
noncomputable def tpt2 (P : Params) : BT := BT.node (boot_o_0 P) (BT.node (boot_o_1 P) (BT.node (tpo58 P) (BT.node (boot_o_7 P) (BT.node (tpo51 P) (BT.node (tpo69 P) (BT.node (tpo101 P) BT.nil BT.nil) (BT.node (tpo133 P) BT.nil BT.nil)) (BT.node (tpo85 P) (BT.node (tpo117 P) BT.nil BT.nil) BT.nil)) (BT.node (tpo61 P) (BT.node (tpo77 P) (BT.node (tpo109 P) BT.nil BT.nil) (BT.node (tpo141 P) BT.nil BT.nil)) (BT.node (tpo93 P) (BT.node (tpo125 P) BT.nil BT.nil) BT.nil))) (BT.node (tpo43 P) (BT.node (tpo55 P) (BT.node (tpo73 P) (BT.node (tpo105 P) BT.nil BT.nil) (BT.node (tpo137 P) BT.nil BT.nil)) (BT.node (tpo89 P) (BT.node (tpo121 P) BT.nil BT.nil) BT.nil)) (BT.node (tpo65 P) (BT.node (tpo81 P) (BT.node (tpo113 P) BT.nil BT.nil) BT.nil) (BT.node (tpo97 P) (BT.node (tpo129 P) BT.nil BT.nil) BT.nil)))) (BT.node (boot_o_5 P) (BT.node (boot_o_9 P) (BT.node (tpo53 P) (BT.node (tpo71 P) (BT.node (tpo103 P) BT.nil BT.nil) (BT.node (tpo135 P) BT.nil BT.nil)) (BT.node (tpo87 P) (BT.node (tpo119 P) BT.nil BT.nil) BT.nil)) (BT.node (tpo63 P) (BT.node (tpo79 P) (BT.node (tpo111 P) BT.nil BT.nil) (BT.node (tpo143 P) BT.nil BT.nil)) (BT.node (tpo95 P) (BT.node (tpo127 P) BT.nil BT.nil) BT.nil))) (BT.node (tpo45 P) (BT.node (tpo57 P) (BT.node (tpo75 P) (BT.node (tpo107 P) BT.nil BT.nil) (BT.node (tpo139 P) BT.nil BT.nil)) (BT.node (tpo91 P) (BT.node (tpo123 P) BT.nil BT.nil) BT.nil)) (BT.node (tpo67 P) (BT.node (tpo83 P) (BT.node (tpo115 P) BT.nil BT.nil) BT.nil) (BT.node (tpo99 P) (BT.node (tpo131 P) BT.nil BT.nil) BT.nil))))) (BT.node (boot_o_2 P) (BT.node (boot_o_4 P) (BT.node (boot_o_8 P) (BT.node (tpo52 P) (BT.node (tpo70 P) (BT.node (tpo102 P) BT.nil BT.nil) (BT.node (tpo134 P) BT.nil BT.nil)) (BT.node (tpo86 P) (BT.node (tpo118 P) BT.nil BT.nil) BT.nil)) (BT.node (tpo62 P) (BT.node (tpo78 P) (BT.node (tpo110 P) BT.nil BT.nil) (BT.node (tpo142 P) BT.nil BT.nil)) (BT.node (tpo94 P) (BT.node (tpo126 P) BT.nil BT.nil) BT.nil))) (BT.node (tpo59 P) (BT.node (tpo56 P) (BT.node (tpo74 P) (BT.node (tpo106 P) BT.nil BT.nil) (BT.node (tpo138 P) BT.nil BT.nil)) (BT.node (tpo90 P) (BT.node (tpo122 P) BT.nil BT.nil) BT.nil)) (BT.node (tpo66 P) (BT.node (tpo82 P) (BT.node (tpo114 P) BT.nil BT.nil) BT.nil) (BT.node (tpo98 P) (BT.node (tpo130 P) BT.nil BT.nil) BT.nil)))) (BT.node (boot_o_6 P) (BT.node (boot_o_10 P) (BT.node (tpo54 P) (BT.node (tpo72 P) (BT.node (tpo104 P) BT.nil BT.nil) (BT.node (tpo136 P) BT.nil BT.nil)) (BT.node (tpo88 P) (BT.node (tpo120 P) BT.nil BT.nil) BT.nil)) (BT.node (tpo64 P) (BT.node (tpo80 P) (BT.node (tpo112 P) BT.nil BT.nil) BT.nil) (BT.node (tpo96 P) (BT.node (tpo128 P) BT.nil BT.nil) BT.nil))) (BT.node (tpo46 P) (BT.node (tpo60 P) (BT.node (tpo76 P) (BT.node (tpo108 P) BT.nil BT.nil) (BT.node (tpo140 P) BT.nil BT.nil)) (BT.node (tpo92 P) (BT.node (tpo124 P) BT.nil BT.nil) BT.nil)) (BT.node (tpo68 P) (BT.node (tpo84 P) (BT.node (tpo116 P) BT.nil BT.nil) BT.nil) (BT.node (tpo100 P) (BT.node (tpo132 P) BT.nil BT.nil) BT.nil)))))
noncomputable def tpt3 (P : Params) : BT := BT.node (boot_o_0 P) (BT.node (boot_o_1 P) (BT.node (tpo144 P) (BT.node (boot_o_7 P) (BT.node (tpo51 P) (BT.node (tpo69 P) (BT.node (tpo101 P) BT.nil BT.nil) (BT.node (tpo133 P) BT.nil BT.nil)) (BT.node (tpo85 P) (BT.node (tpo117 P) BT.nil BT.nil) (BT.node (tpo151 P) BT.nil BT.nil))) (BT.node (tpo61 P) (BT.node (tpo77 P) (BT.node (tpo109 P) BT.nil BT.nil) (BT.node (tpo141 P) BT.nil BT.nil)) (BT.node (tpo93 P) (BT.node (tpo125 P) BT.nil BT.nil) (BT.node (tpo159 P) BT.nil BT.nil)))) (BT.node (tpo43 P) (BT.node (tpo55 P) (BT.node (tpo73 P) (BT.node (tpo105 P) BT.nil BT.nil) (BT.node (tpo137 P) BT.nil BT.nil)) (BT.node (tpo89 P) (BT.node (tpo121 P) BT.nil BT.nil) (BT.node (tpo155 P) BT.nil BT.nil))) (BT.node (tpo65 P) (BT.node (tpo81 P) (BT.node (tpo113 P) BT.nil BT.nil) (BT.node (tpo147 P) BT.nil BT.nil)) (BT.node (tpo97 P) (BT.node (tpo129 P) BT.nil BT.nil) BT.nil)))) (BT.node (boot_o_5 P) (BT.node (boot_o_9 P) (BT.node (tpo53 P) (BT.node (tpo71 P) (BT.node (tpo103 P) BT.nil BT.nil) (BT.node (tpo135 P) BT.nil BT.nil)) (BT.node (tpo87 P) (BT.node (tpo119 P) BT.nil BT.nil) (BT.node (tpo153 P) BT.nil BT.nil))) (BT.node (tpo63 P) (BT.node (tpo79 P) (BT.node (tpo111 P) BT.nil BT.nil) (BT.node (tpo143 P) BT.nil BT.nil)) (BT.node (tpo95 P) (BT.node (tpo127 P) BT.nil BT.nil) BT.nil))) (BT.node (tpo45 P) (BT.node (tpo57 P) (BT.node (tpo75 P) (BT.node (tpo107 P) BT.nil BT.nil) (BT.node (tpo139 P) BT.nil BT.nil)) (BT.node (tpo91 P) (BT.node (tpo123 P) BT.nil BT.nil) (BT.node (tpo157 P) BT.nil BT.nil))) (BT.node (tpo67 P) (BT.node (tpo83 P) (BT.node (tpo115 P) BT.nil BT.nil) (BT.node (tpo149 P) BT.nil BT.nil)) (BT.node (tpo99 P) (BT.node (tpo131 P) BT.nil BT.nil) BT.nil))))) (BT.node (boot_o_2 P) (BT.node (boot_o_4 P) (BT.node (boot_o_8 P) (BT.node (tpo52 P) (BT.node (tpo70 P) (BT.node (tpo102 P) BT.nil BT.nil) (BT.node (tpo134 P) BT.nil BT.nil)) (BT.node (tpo86 P) (BT.node (tpo118 P) BT.nil BT.nil) (BT.node (tpo152 P) BT.nil BT.nil))) (BT.node (tpo62 P) (BT.node (tpo78 P) (BT.node (tpo110 P) BT.nil BT.nil) (BT.node (tpo142 P) BT.nil BT.nil)) (BT.node (tpo94 P) (BT.node (tpo126 P) BT.nil BT.nil) BT.nil))) (BT.node (tpo145 P) (BT.node (tpo56 P) (BT.node (tpo74 P) (BT.node (tpo106 P) BT.nil BT.nil) (BT.node (tpo138 P) BT.nil BT.nil)) (BT.node (tpo90 P) (BT.node (tpo122 P) BT.nil BT.nil) (BT.node (tpo156 P) BT.nil BT.nil))) (BT.node (tpo66 P) (BT.node (tpo82 P) (BT.node (tpo114 P) BT.nil BT.nil) (BT.node (tpo148 P) BT.nil BT.nil)) (BT.node (tpo98 P) (BT.node (tpo130 P) BT.nil BT.nil) BT.nil)))) (BT.node (boot_o_6 P) (BT.node (boot_o_10 P) (BT.node (tpo54 P) (BT.node (tpo72 P) (BT.node (tpo104 P) BT.nil BT.nil) (BT.node (tpo136 P) BT.nil BT.nil)) (BT.node (tpo88 P) (BT.node (tpo120 P) BT.nil BT.nil) (BT.node (tpo154 P) BT.nil BT.nil))) (BT.node (tpo64 P) (BT.node (tpo80 P) (BT.node (tpo112 P) BT.nil BT.nil) (BT.node (tpo146 P) BT.nil BT.nil)) (BT.node (tpo96 P) (BT.node (tpo128 P) BT.nil BT.nil) BT.nil))) (BT.node (tpo46 P) (BT.node (tpo60 P) (BT.node (tpo76 P) (BT.node (tpo108 P) BT.nil BT.nil) (BT.node (tpo140 P) BT.nil BT.nil)) (BT.node (tpo92 P) (BT.node (tpo124 P) BT.nil BT.nil) (BT.node (tpo158 P) BT.nil BT.nil))) (BT.node (tpo68 P) (BT.node (tpo84 P) (BT.node (tpo116 P) BT.nil BT.nil) (BT.node (tpo150 P) BT.nil BT.nil)) (BT.node (tpo100 P) (BT.node (tpo132 P) BT.nil BT.nil) BT.nil)))))
noncomputable def tpt4 (P : Params) : BT := BT.node (boot_o_0 P) (BT.node (boot_o_1 P) (BT.node (tpo160 P) (BT.node (boot_o_7 P) (BT.node (tpo51 P) (BT.node (tpo69 P) (BT.node (tpo101 P) (BT.node (tpo169 P) BT.nil BT.nil) BT.nil) (BT.node (tpo133 P) (BT.node (tpo201 P) BT.nil BT.nil) BT.nil)) (BT.node (tpo85 P) (BT.node (tpo117 P) (BT.node (tpo185 P) BT.nil BT.nil) BT.nil) (BT.node (tpo151 P) (BT.node (tpo217 P) BT.nil BT.nil) BT.nil))) (BT.node (tpo61 P) (BT.node (tpo77 P) (BT.node (tpo109 P) (BT.node (tpo177 P) BT.nil BT.nil) BT.nil) (BT.node (tpo141 P) (BT.node (tpo209 P) BT.nil BT.nil) BT.nil)) (BT.node (tpo93 P) (BT.node (tpo125 P) (BT.node (tpo193 P) BT.nil BT.nil) BT.nil) (BT.node (tpo159 P) (BT.node (tpo225 P) BT.nil BT.nil) BT.nil)))) (BT.node (tpo43 P) (BT.node (tpo55 P) (BT.node (tpo73 P) (BT.node (tpo105 P) (BT.node (tpo173 P) BT.nil BT.nil) BT.nil) (BT.node (tpo137 P) (BT.node (tpo205 P) BT.nil BT.nil) BT.nil)) (BT.node (tpo89 P) (BT.node (tpo121 P) (BT.node (tpo189 P) BT.nil BT.nil) BT.nil) (BT.node (tpo155 P) (BT.node (tpo221 P) BT.nil BT.nil) BT.nil))) (BT.node (tpo65 P) (BT.node (tpo81 P) (BT.node (tpo113 P) (BT.node (tpo181 P) BT.nil BT.nil) BT.nil) (BT.node (tpo147 P) (BT.node (tpo213 P) BT.nil BT.nil) BT.nil)) (BT.node (tpo97 P) (BT.node (tpo129 P) (BT.node (tpo197 P) BT.nil BT.nil) BT.nil) (BT.node (tpo165 P) BT.nil BT.nil))))) (BT.node (boot_o_5 P) (BT.node (boot_o_9 P) (BT.node (tpo53 P) (BT.node (tpo71 P) (BT.node (tpo103 P) (BT.node (tpo171 P) BT.nil BT.nil) BT.nil) (BT.node (tpo135 P) (BT.node (tpo203 P) BT.nil BT.nil) BT.nil)) (BT.node (tpo87 P) (BT.node (tpo119 P) (BT.node (tpo187 P) BT.nil BT.nil) BT.nil) (BT.node (tpo153 P) (BT.node (tpo219 P) BT.nil BT.nil) BT.nil))) (BT.node (tpo63 P) (BT.node (tpo79 P) (BT.node (tpo111 P) (BT.node (tpo179 P) BT.nil BT.nil) BT.nil) (BT.node (tpo143 P) (BT.node (tpo211 P) BT.nil BT.nil) BT.nil)) (BT.node (tpo95 P) (BT.node (tpo127 P) (BT.node (tpo195 P) BT.nil BT.nil) BT.nil) (BT.node (tpo163 P) (BT.node (tpo227 P) BT.nil BT.nil) BT.nil)))) (BT.node (tpo45 P) (BT.node (tpo57 P) (BT.node (tpo75 P) (BT.node (tpo107 P) (BT.node (tpo175 P) BT.nil BT.nil) BT.nil) (BT.node (tpo139 P) (BT.node (tpo207 P) BT.nil BT.nil) BT.nil)) (BT.node (tpo91 P) (BT.node (tpo123 P) (BT.node (tpo191 P) BT.nil BT.nil) BT.nil) (BT.node (tpo157 P) (BT.node (tpo223 P) BT.nil BT.nil) BT.nil))) (BT.node (tpo67 P) (BT.node (tpo83 P) (BT.node (tpo115 P) (BT.node (tpo183 P) BT.nil BT.nil) BT.nil) (BT.node (tpo149 P) (BT.node (tpo215 P) BT.nil BT.nil) BT.nil)) (BT.node (tpo99 P) (BT.node (tpo131 P) (BT.node (tpo199 P) BT.nil BT.nil) BT.nil) (BT.node (tpo167 P) BT.nil BT.nil)))))) (BT.node (boot_o_2 P) (BT.node (boot_o_4 P) (BT.node (boot_o_8 P) (BT.node (tpo52 P) (BT.node (tpo70 P) (BT.node (tpo102 P) (BT.node (tpo170 P) BT.nil BT.nil) BT.nil) (BT.node (tpo134 P) (BT.node (tpo202 P) BT.nil BT.nil) BT.nil)) (BT.node (tpo86 P) (BT.node (tpo118 P) (BT.node (tpo186 P) BT.nil BT.nil) BT.nil) (BT.node (tpo152 P) (BT.node (tpo218 P) BT.nil BT.nil) BT.nil))) (BT.node (tpo62 P) (BT.node (tpo78 P) (BT.node (tpo110 P) (BT.node (tpo178 P) BT.nil BT.nil) BT.nil) (BT.node (tpo142 P) (BT.node (tpo210 P) BT.nil BT.nil) BT.nil)) (BT.node (tpo94 P) (BT.node (tpo126 P) (BT.node (tpo194 P) BT.nil BT.nil) BT.nil) (BT.node (tpo162 P) (BT.node (tpo226 P) BT.nil BT.nil) BT.nil)))) (BT.node (tpo161 P) (BT.node (tpo56 P) (BT.node (tpo74 P) (BT.node (tpo106 P) (BT.node (tpo174 P) BT.nil BT.nil) BT.nil) (BT.node (tpo138 P) (BT.node (tpo206 P) BT.nil BT.nil) BT.nil)) (BT.node (tpo90 P) (BT.node (tpo122 P) (BT.node (tpo190 P) BT.nil BT.nil) BT.nil) (BT.node (tpo156 P) (BT.node (tpo222 P) BT.nil BT.nil) BT.nil))) (BT.node (tpo66 P) (BT.node (tpo82 P) (BT.node (tpo114 P) (BT.node (tpo182 P) BT.nil BT.nil) BT.nil) (BT.node (tpo148 P) (BT.node (tpo214 P) BT.nil BT.nil) BT.nil)) (BT.node (tpo98 P) (BT.node (tpo130 P) (BT.node (tpo198 P) BT.nil BT.nil) BT.nil) (BT.node (tpo166 P) BT.nil BT.nil))))) (BT.node (boot_o_6 P) (BT.node (boot_o_10 P) (BT.node (tpo54 P) (BT.node (tpo72 P) (BT.node (tpo104 P) (BT.node (tpo172 P) BT.nil BT.nil) BT.nil) (BT.node (tpo136 P) (BT.node (tpo204 P) BT.nil BT.nil) BT.nil)) (BT.node (tpo88 P) (BT.node (tpo120 P) (BT.node (tpo188 P) BT.nil BT.nil) BT.nil) (BT.node (tpo154 P) (BT.node (tpo220 P) BT.nil BT.nil) BT.nil))) (BT.node (tpo64 P) (BT.node (tpo80 P) (BT.node (tpo112 P) (BT.node (tpo180 P) BT.nil BT.nil) BT.nil) (BT.node (tpo146 P) (BT.node (tpo212 P) BT.nil BT.nil) BT.nil)) (BT.node (tpo96 P) (BT.node (tpo128 P) (BT.node (tpo196 P) BT.nil BT.nil) BT.nil) (BT.node (tpo164 P) BT.nil BT.nil)))) (BT.node (tpo46 P) (BT.node (tpo60 P) (BT.node (tpo76 P) (BT.node (tpo108 P) (BT.node (tpo176 P) BT.nil BT.nil) BT.nil) (BT.node (tpo140 P) (BT.node (tpo208 P) BT.nil BT.nil) BT.nil)) (BT.node (tpo92 P) (BT.node (tpo124 P) (BT.node (tpo192 P) BT.nil BT.nil) BT.nil) (BT.node (tpo158 P) (BT.node (tpo224 P) BT.nil BT.nil) BT.nil))) (BT.node (tpo68 P) (BT.node (tpo84 P) (BT.node (tpo116 P) (BT.node (tpo184 P) BT.nil BT.nil) BT.nil) (BT.node (tpo150 P) (BT.node (tpo216 P) BT.nil BT.nil) BT.nil)) (BT.node (tpo100 P) (BT.node (tpo132 P) (BT.node (tpo200 P) BT.nil BT.nil) BT.nil) (BT.node (tpo168 P) BT.nil BT.nil))))))
noncomputable def tpt5 (P : Params) : BT := BT.node (boot_o_0 P) (BT.node (boot_o_1 P) (BT.node (tpo230 P) (BT.node (boot_o_7 P) (BT.node (tpo51 P) (BT.node (tpo69 P) (BT.node (tpo101 P) (BT.node (tpo169 P) BT.nil BT.nil) (BT.node (tpo237 P) BT.nil BT.nil)) (BT.node (tpo133 P) (BT.node (tpo201 P) BT.nil BT.nil) BT.nil)) (BT.node (tpo85 P) (BT.node (tpo117 P) (BT.node (tpo185 P) BT.nil BT.nil) (BT.node (tpo253 P) BT.nil BT.nil)) (BT.node (tpo151 P) (BT.node (tpo217 P) BT.nil BT.nil) BT.nil))) (BT.node (tpo61 P) (BT.node (tpo77 P) (BT.node (tpo109 P) (BT.node (tpo177 P) BT.nil BT.nil) (BT.node (tpo245 P) BT.nil BT.nil)) (BT.node (tpo141 P) (BT.node (tpo209 P) BT.nil BT.nil) BT.nil)) (BT.node (tpo93 P) (BT.node (tpo125 P) (BT.node (tpo193 P) BT.nil BT.nil) (BT.node (tpo261 P) BT.nil BT.nil)) (BT.node (tpo159 P) (BT.node (tpo225 P) BT.nil BT.nil) BT.nil)))) (BT.node (tpo43 P) (BT.node (tpo55 P) (BT.node (tpo73 P) (BT.node (tpo105 P) (BT.node (tpo173 P) BT.nil BT.nil) (BT.node (tpo241 P) BT.nil BT.nil)) (BT.node (tpo137 P) (BT.node (tpo205 P) BT.nil BT.nil) BT.nil)) (BT.node (tpo89 P) (BT.node (tpo121 P) (BT.node (tpo189 P) BT.nil BT.nil) (BT.node (tpo257 P) BT.nil BT.nil)) (BT.node (tpo155 P) (BT.node (tpo221 P) BT.nil BT.nil) BT.nil))) (BT.node (tpo65 P) (BT.node (tpo81 P) (BT.node (tpo113 P) (BT.node (tpo181 P) BT.nil BT.nil) (BT.node (tpo249 P) BT.nil BT.nil)) (BT.node (tpo147 P) (BT.node (tpo213 P) BT.nil BT.nil) BT.nil)) (BT.node (tpo97 P) (BT.node (tpo129 P) (BT.node (tpo197 P) BT.nil BT.nil) (BT.node (tpo265 P) BT.nil BT.nil)) (BT.node (tpo165 P) (BT.node (tpo233 P) BT.nil BT.nil) BT.nil))))) (BT.node (boot_o_5 P) (BT.node (boot_o_9 P) (BT.node (tpo53 P) (BT.node (tpo71 P) (BT.node (tpo103 P) (BT.node (tpo171 P) BT.nil BT.nil) (BT.node (tpo239 P) BT.nil BT.nil)) (BT.node (tpo135 P) (BT.node (tpo203 P) BT.nil BT.nil) BT.nil)) (BT.node (tpo87 P) (BT.node (tpo119 P) (BT.node (tpo187 P) BT.nil BT.nil) (BT.node (tpo255 P) BT.nil BT.nil)) (BT.node (tpo153 P) (BT.node (tpo219 P) BT.nil BT.nil) BT.nil))) (BT.node (tpo63 P) (BT.node (tpo79 P) (BT.node (tpo111 P) (BT.node (tpo179 P) BT.nil BT.nil) (BT.node (tpo247 P) BT.nil BT.nil)) (BT.node (tpo143 P) (BT.node (tpo211 P) BT.nil BT.nil) BT.nil)) (BT.node (tpo95 P) (BT.node (tpo127 P) (BT.node (tpo195 P) BT.nil BT.nil) (BT.node (tpo263 P) BT.nil BT.nil)) (BT.node (tpo163 P) (BT.node (tpo227 P) BT.nil BT.nil) BT.nil)))) (BT.node (tpo45 P) (BT.node (tpo57 P) (BT.node (tpo75 P) (BT.node (tpo107 P) (BT.node (tpo175 P) BT.nil BT.nil) (BT.node (tpo243 P) BT.nil BT.nil)) (BT.node (tpo139 P) (BT.node (tpo207 P) BT.nil BT.nil) BT.nil)) (BT.node (tpo91 P) (BT.node (tpo123 P) (BT.node (tpo191 P) BT.nil BT.nil) (BT.node (tpo259 P) BT.nil BT.nil)) (BT.node (tpo157 P) (BT.node (tpo223 P) BT.nil BT.nil) BT.nil))) (BT.node (tpo67 P) (BT.node (tpo83 P) (BT.node (tpo115 P) (BT.node (tpo183 P) BT.nil BT.nil) (BT.node (tpo251 P) BT.nil BT.nil)) (BT.node (tpo149 P) (BT.node (tpo215 P) BT.nil BT.nil) BT.nil)) (BT.node (tpo99 P) (BT.node (tpo131 P) (BT.node (tpo199 P) BT.nil BT.nil) (BT.node (tpo267 P) BT.nil BT.nil)) (BT.node (tpo167 P) (BT.node (tpo235 P) BT.nil BT.nil) BT.nil)))))) (BT.node (boot_o_2 P) (BT.node (boot_o_4 P) (BT.node (boot_o_8 P) (BT.node (tpo52 P) (BT.node (tpo70 P) (BT.node (tpo102 P) (BT.node (tpo170 P) BT.nil BT.nil) (BT.node (tpo238 P) BT.nil BT.nil)) (BT.node (tpo134 P) (BT.node (tpo202 P) BT.nil BT.nil) BT.nil)) (BT.node (tpo86 P) (BT.node (tpo118 P) (BT.node (tpo186 P) BT.nil BT.nil) (BT.node (tpo254 P) BT.nil BT.nil)) (BT.node (tpo152 P) (BT.node (tpo218 P) BT.nil BT.nil) BT.nil))) (BT.node (tpo62 P) (BT.node (tpo78 P) (BT.node (tpo110 P) (BT.node (tpo178 P) BT.nil BT.nil) (BT.node (tpo246 P) BT.nil BT.nil)) (BT.node (tpo142 P) (BT.node (tpo210 P) BT.nil BT.nil) BT.nil)) (BT.node (tpo94 P) (BT.node (tpo126 P) (BT.node (tpo194 P) BT.nil BT.nil) (BT.node (tpo262 P) BT.nil BT.nil)) (BT.node (tpo162 P) (BT.node (tpo226 P) BT.nil BT.nil) BT.nil)))) (BT.node (tpo231 P) (BT.node (tpo56 P) (BT.node (tpo74 P) (BT.node (tpo106 P) (BT.node (tpo174 P) BT.nil BT.nil) (BT.node (tpo242 P) BT.nil BT.nil)) (BT.node (tpo138 P) (BT.node (tpo206 P) BT.nil BT.nil) BT.nil)) (BT.node (tpo90 P) (BT.node (tpo122 P) (BT.node (tpo190 P) BT.nil BT.nil) (BT.node (tpo258 P) BT.nil BT.nil)) (BT.node (tpo156 P) (BT.node (tpo222 P) BT.nil BT.nil) BT.nil))) (BT.node (tpo66 P) (BT.node (tpo82 P) (BT.node (tpo114 P) (BT.node (tpo182 P) BT.nil BT.nil) (BT.node (tpo250 P) BT.nil BT.nil)) (BT.node (tpo148 P) (BT.node (tpo214 P) BT.nil BT.nil) BT.nil)) (BT.node (tpo98 P) (BT.node (tpo130 P) (BT.node (tpo198 P) BT.nil BT.nil) (BT.node (tpo266 P) BT.nil BT.nil)) (BT.node (tpo166 P) (BT.node (tpo234 P) BT.nil BT.nil) BT.nil))))) (BT.node (boot_o_6 P) (BT.node (boot_o_10 P) (BT.node (tpo54 P) (BT.node (tpo72 P) (BT.node (tpo104 P) (BT.node (tpo172 P) BT.nil BT.nil) (BT.node (tpo240 P) BT.nil BT.nil)) (BT.node (tpo136 P) (BT.node (tpo204 P) BT.nil BT.nil) BT.nil)) (BT.node (tpo88 P) (BT.node (tpo120 P) (BT.node (tpo188 P) BT.nil BT.nil) (BT.node (tpo256 P) BT.nil BT.nil)) (BT.node (tpo154 P) (BT.node (tpo220 P) BT.nil BT.nil) BT.nil))) (BT.node (tpo64 P) (BT.node (tpo80 P) (BT.node (tpo112 P) (BT.node (tpo180 P) BT.nil BT.nil) (BT.node (tpo248 P) BT.nil BT.nil)) (BT.node (tpo146 P) (BT.node (tpo212 P) BT.nil BT.nil) BT.nil)) (BT.node (tpo96 P) (BT.node (tpo128 P) (BT.node (tpo196 P) BT.nil BT.nil) (BT.node (tpo264 P) BT.nil BT.nil)) (BT.node (tpo164 P) (BT.node (tpo232 P) BT.nil BT.nil) BT.nil)))) (BT.node (tpo46 P) (BT.node (tpo60 P) (BT.node (tpo76 P) (BT.node (tpo108 P) (BT.node (tpo176 P) BT.nil BT.nil) (BT.node (tpo244 P) BT.nil BT.nil)) (BT.node (tpo140 P) (BT.node (tpo208 P) BT.nil BT.nil) BT.nil)) (BT.node (tpo92 P) (BT.node (tpo124 P) (BT.node (tpo192 P) BT.nil BT.nil) (BT.node (tpo260 P) BT.nil BT.nil)) (BT.node (tpo158 P) (BT.node (tpo224 P) BT.nil BT.nil) BT.nil))) (BT.node (tpo68 P) (BT.node (tpo84 P) (BT.node (tpo116 P) (BT.node (tpo184 P) BT.nil BT.nil) (BT.node (tpo252 P) BT.nil BT.nil)) (BT.node (tpo150 P) (BT.node (tpo216 P) BT.nil BT.nil) BT.nil)) (BT.node (tpo100 P) (BT.node (tpo132 P) (BT.node (tpo200 P) BT.nil BT.nil) BT.nil) (BT.node (tpo168 P) (BT.node (tpo236 P) BT.nil BT.nil) BT.nil))))))
noncomputable def tphf (P : Params) : Heap := { objs := { toList := [boot_o_0 P, boot_o_1 P, boot_o_2 P, tpo230 P, boot_o_4 P, boot_o_5 P, boot_o_6 P, boot_o_7 P, boot_o_8 P, boot_o_9 P, boot_o_10 P, tpo43 P, tpo231 P, tpo45 P, tpo46 P, tpo51 P, tpo52 P, tpo53 P, tpo54 P, tpo55 P, tpo56 P, tpo57 P, tpo60 P, tpo61 P, tpo62 P, tpo63 P, tpo64 P, tpo65 P, tpo66 P, tpo67 P, tpo68 P, tpo69 P, tpo70 P, tpo71 P, tpo72 P, tpo73 P, tpo74 P, tpo75 P, tpo76 P, tpo77 P, tpo78 P, tpo79 P, tpo80 P, tpo81 P, tpo82 P, tpo83 P, tpo84 P, tpo85 P, tpo86 P, tpo87 P, tpo88 P, tpo89 P, tpo90 P, tpo91 P, tpo92 P, tpo93 P, tpo94 P, tpo95 P, tpo96 P, tpo97 P, tpo98 P, tpo99 P, tpo100 P, tpo101 P, tpo102 P, tpo103 P, tpo104 P, tpo105 P, tpo106 P, tpo107 P, tpo108 P, tpo109 P, tpo110 P, tpo111 P, tpo112 P, tpo113 P, tpo114 P, tpo115 P, tpo116 P, tpo117 P, tpo118 P, tpo119 P, tpo120 P, tpo121 P, tpo122 P, tpo123 P, tpo124 P, tpo125 P, tpo126 P, tpo127 P, tpo128 P, tpo129 P, tpo130 P, tpo131 P, tpo132 P, tpo133 P, tpo134 P, tpo135 P, tpo136 P, tpo137 P, tpo138 P, tpo139 P, tpo140 P, tpo141 P, tpo142 P, tpo143 P, tpo146 P, tpo147 P, tpo148 P, tpo149 P, tpo150 P, tpo151 P, tpo152 P, tpo153 P, tpo154 P, tpo155 P, tpo156 P, tpo157 P, tpo158 P, tpo159 P, tpo162 P, tpo163 P, tpo164 P, tpo165 P, tpo166 P, tpo167 P, tpo168 P, tpo169 P, tpo170 P, tpo171 P, tpo172 P, tpo173 P, tpo174 P, tpo175 P, tpo176 P, tpo177 P, tpo178 P, tpo179 P, tpo180 P, tpo181 P, tpo182 P, tpo183 P, tpo184 P, tpo185 P, tpo186 P, tpo187 P, tpo188 P, tpo189 P, tpo190 P, tpo191 P, tpo192 P, tpo193 P, tpo194 P, tpo195 P, tpo196 P, tpo197 P, tpo198 P, tpo199 P, tpo200 P, tpo201 P, tpo202 P, tpo203 P, tpo204 P, tpo205 P, tpo206 P, tpo207 P, tpo208 P, tpo209 P, tpo210 P, tpo211 P, tpo212 P, tpo213 P, tpo214 P, tpo215 P, tpo216 P, tpo217 P, tpo218 P, tpo219 P, tpo220 P, tpo221 P, tpo222 P, tpo223 P, tpo224 P, tpo225 P, tpo226 P, tpo227 P, tpo232 P, tpo233 P, tpo234 P, tpo235 P, tpo236 P, tpo237 P, tpo238 P, tpo239 P, tpo240 P, tpo241 P, tpo242 P, tpo243 P, tpo244 P, tpo245 P, tpo246 P, tpo247 P, tpo248 P, tpo249 P, tpo250 P, tpo251 P, tpo252 P, tpo253 P, tpo254 P, tpo255 P, tpo256 P, tpo257 P, tpo258 P, tpo259 P, tpo260 P, tpo261 P, tpo262 P, tpo263 P, tpo264 P, tpo265 P, tpo266 P, tpo267 P] } }
noncomputable def tpEnv : Env := { scope := RW.prog.main.scope, locals := mainNs, globals := mainNs, cells := [], code := .ref 13, frame := some 14 }
noncomputable abbrev tpB : List Stmt := behindTheImports RW.prog
noncomputable abbrev tpC : Code := .body tpB tpEnv
noncomputable abbrev tpP (a b c d : Nat) : Pos := ⟨a, b, c, d⟩
noncomputable abbrev tpK : List Frame := [topFrame (tpP 0 0 0 0)]
noncomputable abbrev tpS (i n : Nat) : List Stmt := (tpB.drop i).take n
noncomputable abbrev tpAt (t : Params → BT) (n k : Nat) (w : World) (os : OsState) : SharedT := ⟨t w.params, n, {}, #[], {}, k, os⟩
noncomputable abbrev tpSeg (w : World) (m : Nat) (t : Params → BT) (n k : Nat) (l : List Stmt) (p : Pos) (os : OsState) := segRunT treeTable RW.prog w 11 (some (.ref 6)) 1 m (tpAt t n k w os) (piecesOf l tpEnv tpC p tpK)
noncomputable abbrev tpEnd (w : World) (t : Params → BT) (n k : Nat) (p : Pos) (os : OsState) : Option (Flow × SharedT × Code × Pos) := some (.next, tpAt t n k w os, tpC, p)
set_option maxHeartbeats 8000000
theorem tp_pre : ∀ w : World, (fun os => topGo treeTable RW.prog w 11 (some (.ref 6)) 12 ⟨boot_heap w.params, #[], boot_drawn, boot_toks, os⟩ (topStub RW.prog)) =
    fun os => some (⟨tpha w.params, #[], {}, 187, os⟩, ⟨denote treeTable tpC, tpC, tpP 0 0 0 0, tpK⟩) := fun w => by kernel_rfl
theorem tp_block : ∀ w : World, (fun os => segRun treeTable RW.prog w 11 (some (.ref 6)) 1 1 ⟨tpha w.params, #[], {}, 187, os⟩ (blockOf tpB tpEnv tpC (tpP 0 0 0 0) tpK)) =
    fun os => some (.next, (tpAt tpt0 15 187 w os).abs, tpC, tpP 0 0 0 0) := fun w => by kernel_rfl
theorem tp_1 : ∀ w : World, (fun os => tpSeg w 48 tpt0 15 187 (tpS 0 3) (tpP 0 0 0 0) os) = fun os => tpEnd w tpt1 22 198 (tpP 5 0 5 11) os := fun w => by kernel_rfl
theorem tp_2 : ∀ w : World, (fun os => tpSeg w 504 tpt1 22 198 (tpS 3 1) (tpP 5 0 5 11) os) = fun os => tpEnd w tpt2 106 293 (tpP 6 0 36 32) os := fun w => by kernel_rfl
theorem tp_3 : ∀ w : World, (fun os => tpSeg w 91 tpt2 106 293 (tpS 4 5) (tpP 6 0 36 32) os) = fun os => tpEnd w tpt3 120 318 (tpP 61 0 61 8) os := fun w => by kernel_rfl
theorem tp_4f : ∀ w : World, (fun os => tpSeg (w.withFollow "special-get-raises" false) 487 tpt3 120 318 (tpS 9 1) (tpP 61 0 61 8) os) = fun os => tpEnd (w.withFollow "special-get-raises" false) tpt4 186 412 (tpP 62 0 105 16) os := fun w => by kernel_rfl
theorem tp_4t : ∀ w : World, (fun os => tpSeg (w.withFollow "special-get-raises" true) 487 tpt3 120 318 (tpS 9 1) (tpP 61 0 61 8) os) = fun os => tpEnd (w.withFollow "special-get-raises" true) tpt4 186 412 (tpP 62 0 105 16) os := fun w => by kernel_rfl
theorem tp_4 : ∀ w : World, (fun os => tpSeg w 487 tpt3 120 318 (tpS 9 1) (tpP 61 0 61 8) os) = fun os => tpEnd w tpt4 186 412 (tpP 62 0 105 16) os := byRow2 "special-get-raises" tp_4f tp_4t
theorem tp_5 : ∀ w : World, (fun os => tpSeg w 200 tpt4 186 412 (tpS 10 8) (tpP 62 0 105 16) os) = fun os => tpEnd w tpt5 222 471 (tpP 147 0 181 63) os := fun w => by kernel_rfl
theorem tp_fin : ∀ w : World, (fun os => topRun treeTable RW.prog w 11 (some (.ref 6)) 2 (tpAt tpt5 222 471 w os).abs ⟨doneF .next, tpC, tpP 147 0 181 63, tpK⟩) = fun os => some ⟨tphf w.params, #[], {}, 471, os⟩ := fun w => by kernel_rfl
theorem tp_body : tpB = tpS 0 3 ++ (tpS 3 1 ++ (tpS 4 5 ++ (tpS 9 1 ++ (tpS 10 8 ++ [])))) := by kernel_rfl
noncomputable abbrev tpSteps : Nat := 12 + (1 + (48 + (504 + (91 + (487 + (200 + 2))))))
theorem tp_run (w : World) (os : OsState) : topRun treeTable RW.prog w 11 (some (.ref 6)) tpSteps ⟨boot_heap w.params, #[], boot_drawn, boot_toks, os⟩ (topStub RW.prog) = some ⟨tphf w.params, #[], {}, 471, os⟩ := by
  refine go_top (congrFun (tp_pre w) os) (piece_block (congrFun (tp_block w) os) ?_)
  have e : restOf tpB tpEnv tpC (tpP 0 0 0 0) tpK = restOf (tpS 0 3 ++ (tpS 3 1 ++ (tpS 4 5 ++ (tpS 9 1 ++ (tpS 10 8 ++ []))))) tpEnv tpC (tpP 0 0 0 0) tpK := congrArg (fun b => restOf b tpEnv tpC (tpP 0 0 0 0) tpK) tp_body
  rw [e]
  refine piece_app (segRun_of (congrFun (tp_1 w) os)) (piece_app (segRun_of (congrFun (tp_2 w) os)) (piece_app (segRun_of (congrFun (tp_3 w) os)) (piece_app (segRun_of (congrFun (tp_4 w) os)) (piece_app (segRun_of (congrFun (tp_5 w) os)) (congrFun (tp_fin w) os)))))
theorem tp_size : ∀ w : World, ((boot_heap w.params).isNs mainGlobals && (#[] : Array GenState).size == 0, (boot_heap w.params).objs.size, (boot_heap w.params).nsMap mainGlobals "__annotations__") = (true, 11, some (.ref 6)) := fun w => by kernel_rfl
theorem tp_l1 : ∀ w : World, (fun os : OsState => (staticsOk (importedModules RW.prog.main.body) (boot_heap w.params) (tphf w.params) && namesBound RW.prog (tphf w.params) && gensDone ⟨tphf w.params, #[], {}, 471, os⟩ && laidKept (boot_heap w.params) (tphf w.params))) = fun _ => true := fun w => by kernel_rfl
theorem tp_l2 : ∀ w : World, (fun os : OsState => openSeen view loo (importedModules RW.prog.main.body) xt true ⟨tphf w.params, #[], {}, 471, os⟩) = fun _ => openGood view loo := fun w => by kernel_rfl
theorem tp_l3 : ∀ w : World, (asL.map (tphf w.params).get?, (tphf w.params).get? 63) = ((hd.heap_1 w.params).map (fun p => some p.2), some (tabObj #[])) := fun w => by kernel_rfl
theorem op_eq : opening RW.prog = plainProg RW.prog.main.scope.names := by kernel_rfl
theorem fence_eq : ∀ s, fenceModules? RW.prog s = some s := by intro s; kernel_rfl
theorem op_all : ∀ w : World, (fencedOpening treeTable RW.prog w 2776).map (fun s => (s.heap, s.gens, s.drawn, s.toks)) = some (boot_heap w.params, Array.mk [], boot_drawn, boot_toks) := boot_open op_eq (by decide +kernel) fence_eq
theorem tp_left : LeftO RW.prog view loo xt (fun s => (asL.map s.heap.get?, s.heap.get? 63)) (fun w => ((hd.heap_1 w.params).map (fun p => some p.2), some (tabObj #[]))) 2776 :=
  LeftO.of_pieces op_all tp_size tp_run (by decide) (fun w => funext fun os => by
    show (_, _, _) = _
    rw [congrFun (tp_l1 w) os, congrFun (tp_l2 w) os, tp_l3 w])

end
section
open PySem.Spec PySem.Calls

noncomputable def F0 : Value → Shared → Prop := fun _ _ => False

structure Sat (h₀ : Heap) (L : Addr) (m : Str → Option Value) (M : List (Addr × Obj)) (o : OsState) (d : Drawn) (s : Shared) : Prop where
  fr : Fr h₀ L s.heap m
  nw : News h₀ L s.heap M
  nd : (M.map (·.1)).Nodup
  gb : AllBare s.gens
  os : s.os = o
  dr : s.drawn = d

structure Ext (s s' : Shared) : Prop where
  keep : ∀ b o, s.heap.get? b = some o → s'.heap.get? b = some o
  gb : AllBare s'.gens
  os : s'.os = s.os
  dr : s'.drawn = s.drawn

/-- what a call of the text's own asks of the state -/
structure Gl (w : World) (mean : ExcName → Option Value) (mg mb : Str → Option Value) (h : Heap) : Prop where
  kin : (hd.heap_1 w.params).In h
  top : Top topProg ((looseW Mine.view loo) ++ (recsOf Mine.view).map (·.name) ++ (litsOf Mine.view).map (·.1) ++ (clssOf Mine.view (looseW Mine.view loo)).map (·.name)) mean mg mb h

theorem Gl.keeps {w : World} {mean mg mb} {h h' : Heap} (G : Gl w mean mg mb h) (k : ∀ b o, h.get? b = some o → h'.get? b = some o) : Gl w mean mg mb h' := ⟨G.kin.keeps k, G.top.keeps k⟩

noncomputable abbrev ForIt (prog : Program) (w : World) (A : Around) (env : Env) (target : Expr) (body : List Stmt) (Q : Flow → Shared → Prop) (it : Value) (s₂ : Shared) : Prop :=
  ∃ (I : Nat → Shared → Prop) (n : Nat), I n s₂ ∧ ∀ n s, I n s → wpAny (model prog w) A (pyNext it) (fun r s₁ => match r with
        | none => Q .next s₁
        | some v => wpAny (model prog w) A (assign target env v) (fun _ s₂ => wpAny (model prog w) A (execs body env)
            (fun f s₃ => match f with | .next => ∃ m, m < n ∧ I m s₃ | .cont => ∃ m, m < n ∧ I m s₃ | .brk => Q .next s₃ | .ret v => Q (.ret v) s₃) F0 s₂) F0 s₁) F0 s

section
variable {prog : Program} {w : World} {A : Around} {E : Value → Shared → Prop} {s : Shared} {env : Env} {h₀ : Heap} {L : Addr} {m : Str → Option Value} {M : List (Addr × Obj)} {o : OsState} {d : Drawn} {mean : ExcName → Option Value} {mg mb : Str → Option Value}

theorem Sat.tk (S : Sat h₀ L m M o d s) (n : Nat) : Sat h₀ L m M o d { s with toks := n } := ⟨S.fr, S.nw, S.nd, S.gb, S.os, S.dr⟩

theorem Sat.ext {s' : Shared} (S : Sat h₀ L m M o d s) (x : Ext s s') : Sat h₀ L m M o d s' :=
  ⟨⟨S.fr.ns.keeps x.keep, fun b o e => x.keep b o (S.fr.keep b o e), S.fr.above⟩, fun p hp => ⟨x.keep _ _ (S.nw p hp).1, (S.nw p hp).2⟩, S.nd, x.gb, x.os.trans S.os, x.dr.trans S.dr⟩

theorem Ext.refl (g : AllBare s.gens) : Ext s s := ⟨fun _ _ e => e, g, rfl, rfl⟩
theorem Ext.trans {s₁ s₂ : Shared} (x : Ext s s₁) (y : Ext s₁ s₂) : Ext s s₂ := ⟨fun b o e => y.keep b o (x.keep b o e), y.gb, y.os.trans x.os, y.dr.trans x.dr⟩

/-- a local name -/
theorem r_loc {x : Str} {pos : Pos} {v : Value} {Q : Value → Shared → Prop} (S : Sat h₀ env.locals m M o d s) (hv : m x = some v) (k : Q v s)
    (hk : env.scope.kind = .function := by rfl) (hl : env.kindOf x = some .local := by rfl) (hd : (x == ("__debug__" : Str)) = false := by decide) :
    wpAny (model prog w) A (eval (.Name x pos) env) Q E s := wpAny_Name (wpAny_loadName_local hk hl S.fr.ns hv k) hd
theorem r_ldn {x : Str} {v : Value} {Q : Value → Shared → Prop} (S : Sat h₀ env.locals m M o d s) (hv : m x = some v) (k : Q v s)
    (hk : env.scope.kind = .function := by rfl) (hl : env.kindOf x = some .local := by rfl) :
    wpAny (model prog w) A (loadName env x) Q E s := wpAny_loadName_local hk hl S.fr.ns hv k
theorem r_st {x : Str} {v : Value} {Q : Unit → Shared → Prop} (S : Sat h₀ env.locals m M o d s)
    (k : ∀ s', Sat h₀ env.locals (fun y => if y = x then some v else m y) M o d s' → Q () s') (hl : env.kindOf x = some .local := by rfl)
    (hp : (env.scope.kind == .class || (env.scope.kind == .module && env.locals != env.globals)) = false := by rfl) :
    wpAny (model prog w) A (storeName env x v) Q E s :=
  wpAny_storeName_local hl S.fr.ns (fun _ hn hs => k _ ⟨S.fr.set hn hs, S.nw.set hs, S.nd, S.gb, S.os, S.dr⟩) hp

theorem r_kint {i : Int} {kd : Nat} {pos : Pos} {Q : Value → Shared → Prop} (S : Sat h₀ L m M o d s) (k : ∀ t s', Sat h₀ L m M o d s' → Q (.int i t) s') :
    wpAny (model prog w) A (eval (.Constant (.int i) kd pos) env) Q E s := wpAny_Constant_int (k _ _ (S.tk _))
theorem r_kstr {x : Str} {kd : Nat} {pos : Pos} {Q : Value → Shared → Prop} (S : Sat h₀ L m M o d s) (k : ∀ t s', Sat h₀ L m M o d s' → Q (.str x t) s') :
    wpAny (model prog w) A (eval (.Constant (.str x) kd pos) env) Q E s := wpAny_Constant_str (k _ _ (S.tk _))
theorem r_add {a b : Int} {t u : Tok} {Q : Value → Shared → Prop} (S : Sat h₀ L m M o d s) (k : ∀ t s', Sat h₀ L m M o d s' → Q (.int (a + b) t) s') :
    wpAny (model prog w) A (binaryOp .Add (.int a t) (.int b u)) Q E s := add_int (k _ _ (S.tk _))
theorem r_sub {a b : Int} {t u : Tok} {Q : Value → Shared → Prop} (S : Sat h₀ L m M o d s) (k : ∀ t s', Sat h₀ L m M o d s' → Q (.int (a - b) t) s') :
    wpAny (model prog w) A (binaryOp .Sub (.int a t) (.int b u)) Q E s := sub_int (k _ _ (S.tk _))
theorem r_iadd {a b : Int} {t u : Tok} {Q : Value → Shared → Prop} (S : Sat h₀ L m M o d s) (k : ∀ t s', Sat h₀ L m M o d s' → Q (.int (a + b) t) s') :
    wpAny (model prog w) A (inplaceOp .Add (.int a t) (.int b u)) Q E s := iadd_int (k _ _ (S.tk _))
theorem r_isub {a b : Int} {t u : Tok} {Q : Value → Shared → Prop} (S : Sat h₀ L m M o d s) (k : ∀ t s', Sat h₀ L m M o d s' → Q (.int (a - b) t) s') :
    wpAny (model prog w) A (inplaceOp .Sub (.int a t) (.int b u)) Q E s := isub_int (k _ _ (S.tk _))
theorem r_iadds {a b : Str} {t u : Tok} {Q : Value → Shared → Prop} (S : Sat h₀ L m M o d s) (hz : a.length + b.length ≤ sizeLine) (k : ∀ t s', Sat h₀ L m M o d s' → Q (.str (a ++ b) t) s') :
    wpAny (model prog w) A (inplaceOp .Add (.str a t) (.str b u)) Q E s := iadd_str (fun _ _ => k _ _ (S.tk _)) hz
theorem r_adds {a b : Str} {t u : Tok} {Q : Value → Shared → Prop} (S : Sat h₀ L m M o d s) (hz : a.length + b.length ≤ sizeLine) (k : ∀ t s', Sat h₀ L m M o d s' → Q (.str (a ++ b) t) s') :
    wpAny (model prog w) A (binaryOp .Add (.str a t) (.str b u)) Q E s := add_str (fun _ _ => k _ _ (S.tk _)) hz
theorem r_mul {a b : Int} {t u : Tok} {Q : Value → Shared → Prop} (S : Sat h₀ L m M o d s) (hz : IntMulOk a b) (k : ∀ t s', Sat h₀ L m M o d s' → Q (.int (a * b) t) s') :
    wpAny (model prog w) A (binaryOp .Mult (.int a t) (.int b u)) Q E s := mul_int (k _ _ (S.tk _)) hz
theorem r_mod {a b : Int} {t u : Tok} {Q : Value → Shared → Prop} (S : Sat h₀ L m M o d s) (hz : b ≠ 0) (k : ∀ t s', Sat h₀ L m M o d s' → Q (.int (a.fmod b) t) s') :
    wpAny (model prog w) A (binaryOp .Mod (.int a t) (.int b u)) Q E s := mod_int' hz (k _ _ (S.tk _))
theorem r_lenS {x : Str} {t : Tok} {Q : Value → Shared → Prop} (S : Sat h₀ L m M o d s) (hz : (x.length : Int) < 9223372036854775808) (k : ∀ t s', Sat h₀ L m M o d s' → Q (.int x.length t) s') :
    wpAny (model prog w) A (call (.builtin "len") [.str x t]) Q E s := SBL.len hz (k _ _ (S.tk _))
theorem r_itemS {value slice : Expr} {x : Str} {t u : Tok} {i : Int} {Q : Value → Shared → Prop} (S : Sat h₀ L m M o d s) (h1 : 0 ≤ i) (h2 : i < x.length) (h3 : x.length ≤ 1000000) (k : ∀ t s', Sat h₀ L m M o d s' → Q (.str (Txt.item x i) t) s')
    (e1 : subscripted slice false (.str x t) (.int i u) = operate [.str x t, .int i u] (getItem (.str x t) (.int i u)) := by rfl) (e2 : ∀ r : Value, letTemporaryGo value (.str x t) r = pure () := by intro _; rfl) :
    wpAny (model prog w) A (subscriptTail value slice (.str x t) (.int i u)) Q E s :=
  item_str (fitsSsize_of (N := 9223372036854775808) (by omega) (by omega) (Int.le_refl _)) (by omega) h2 (fun _ => k _ _ (S.tk _)) e1 e2

theorem noted_F0 {R : Value → Shared → Prop} {v : Value} (h : F0 v s) : notedBy (model prog w) A env R v s := h.elim
theorem r_while {test : Expr} {body : List Stmt} {pos : Pos} {Q : Flow → Shared → Prop} (I : Nat → Shared → Prop) (n : Nat) (h : I n s)
    (turn : ∀ n s, I n s → wpAny (model prog w) A (PySem.isTrue test env (eval test env)) (fun b s₂ => if b = true then
      wpAny (model prog w) A (execs body env) (fun f s₃ => match f with | .next => ∃ m, m < n ∧ I m s₃ | .cont => ∃ m, m < n ∧ I m s₃ | .brk => Q .next s₃ | .ret v => Q (.ret v) s₃) F0 s₂
      else Q .next s₂) F0 s) : wpAny (model prog w) A (exec (.While test body [] pos) env) Q E s := by
  refine wpAny_While (codeAny_whileLoop I (fun n s hI => wpAny_mono (turn n s hI) (fun b s₂ hb => ?_) fun _ _ h => h.elim) n h)
  cases b with
  | true =>
    rw [if_pos rfl] at hb ⊢
    refine wpAny_mono hb (fun f s₃ hf => ?_) fun _ _ h => h.elim
    cases f <;> exact hf
  | false =>
    rw [if_neg Bool.false_ne_true] at hb ⊢
    exact wpAny_execs_nil hb

theorem r_for {target iter : Expr} {body : List Stmt} {pos : Pos} {Q : Flow → Shared → Prop}
    (h : wpAny (model prog w) A (eval iter env) (fun x s₁ => wpAny (model prog w) A (pyIter x) (fun it s₂ =>
      ForIt prog w A env target body Q it s₂) E s₁) E s)
    (hs : ∀ x, foldedSetIterable iter env x = pure x := by intro _; rfl) (hg : ∀ it v, letOwnedTupleGo target it v = pure () := by intro _ _; rfl) :
    wpAny (model prog w) A (exec (.For target iter body [] pos) env) Q E s := by
  refine wpAny_For (wpAny_mono h (fun x s₁ h₁ => wpAny_mono h₁ (fun it s₂ h₂ => ?_) fun _ _ h => h) fun _ _ h => h) hs
  obtain ⟨I, n, hI, turn⟩ := h₂
  refine codeAny_forLoop I (fun n s hI => wpAny_mono (turn n s hI) (fun r s₁ hr => ?_) fun _ _ h => h.elim) n hI (hg it)
  cases r with
  | none => exact wpAny_execs_nil hr
  | some v =>
    refine wpAny_mono hr (fun _ s₂ hb => wpAny_mono hb (fun f s₃ hf => ?_) fun _ _ h => h.elim) fun _ _ h => h.elim
    cases f <;> exact hf

theorem Sat.push (S : Sat h₀ L m M o d s) (ob : Obj) (hf : ob.isFreed = false := by rfl) : Sat h₀ L m ((s.heap.objs.size, ob) :: M) o d { s with heap := s.heap.push ob } :=
  ⟨S.fr.push ob, S.nw.push S.fr ob hf, by
    rw [List.map_cons, List.nodup_cons]
    refine ⟨fun h => ?_, S.nd⟩
    obtain ⟨p, hp, e⟩ := List.mem_map.mp h
    exact absurd (Heap.lt_size (S.nw p hp).1) (by rw [e]; exact Nat.lt_irrefl _), S.gb, S.os, S.dr⟩

theorem Sat.sub {M' : List (Addr × Obj)} (S : Sat h₀ L m M o d s) (h : ∀ p ∈ M', p ∈ M) (hn : (M'.map (·.1)).Nodup) : Sat h₀ L m M' o d s := ⟨S.fr, fun p hp => S.nw p (h p hp), hn, S.gb, S.os, S.dr⟩

theorem Sat.drop {pre post : List (Addr × Obj)} {q : Addr × Obj} (S : Sat h₀ L m (pre ++ q :: post) o d s) : Sat h₀ L m (pre ++ post) o d s :=
  S.sub (fun p hp => (List.mem_append.mp hp).elim (fun h => List.mem_append.mpr (.inl h)) fun h => List.mem_append.mpr (.inr (.tail _ h)))
    (by have h := S.nd; rw [List.map_append, List.map_cons] at h; rw [List.map_append]; exact h.sublist ((List.Sublist.refl _).append (List.sublist_cons_self _ _)))

theorem Sat.off {pre post : List (Addr × Obj)} {a : Addr} {ob : Obj} (S : Sat h₀ L m (pre ++ (a, ob) :: post) o d s) : ∀ p ∈ pre ++ post, p.1 ≠ a := by
  intro p hp e
  have h := S.nd
  rw [List.map_append, List.map_cons, List.nodup_append] at h
  obtain ⟨_, h2, h3⟩ := h
  rw [List.nodup_cons] at h2
  rcases List.mem_append.mp hp with hp | hp
  · exact h3 p.1 (List.mem_map_of_mem hp) a (.head _) e
  · exact h2.1 (by have q := List.mem_map_of_mem (f := fun p : Addr × Obj => p.1) hp; rw [e] at q; exact q)

/-- the object at a has changed, nothing else -/
theorem Sat.upd {pre post : List (Addr × Obj)} {a : Addr} {ob ob' : Obj} {h' : Heap} (S : Sat h₀ L m (pre ++ (a, ob) :: post) o d s) (hs : Heap.SameBut a s.heap h') (ho : h'.get? a = some ob') (n : Nat) :
    Sat h₀ L m (pre ++ (a, ob') :: post) o d { s with heap := h', toks := n } := by
  have hm : (a, ob) ∈ pre ++ (a, ob) :: post := List.mem_append.mpr (.inr (.head _))
  have hoff := S.off
  refine ⟨S.fr.update S.nw hm hs, fun p hp => ?_, by have h := S.nd; rw [List.map_append, List.map_cons] at h ⊢; exact h, S.gb, S.os, S.dr⟩
  by_cases e : p.1 = a
  · have hp' : p = (a, ob') := by
      rcases List.mem_append.mp hp with h | h
      · exact absurd e (hoff p (List.mem_append.mpr (.inl h)))
      · rcases List.mem_cons.mp h with h | h
        · exact h
        · exact absurd e (hoff p (List.mem_append.mpr (.inr h)))
    subst hp'
    exact ⟨ho, (S.nw _ hm).2⟩
  · have hp' : p ∈ pre ++ (a, ob) :: post := by
      rcases List.mem_append.mp hp with h | h
      · exact List.mem_append.mpr (.inl h)
      · rcases List.mem_cons.mp h with h | h
        · exact absurd (by rw [h]) e
        · exact List.mem_append.mpr (.inr (.tail _ h))
    exact ⟨(hs.2 _ e).trans (S.nw p hp').1, (S.nw p hp').2⟩

theorem r_call {f : Addr} {fo : Obj} {fd : FuncData} {args : List Value} {binds : List (Str × Value)} {body : List Stmt} {Q : Value → Shared → Prop}
    (hd : A.depth < recursionLimit) (ho : s.heap.get? f = some fo) (hfo : fo.data = .func fd) (hb : fd.body = .stmts body) (hcd : s.heap.CodeRec fd.code fd.qualname) (hlim : s.heap.NoLimit)
    (hbind : bindArgs fd ⟨args, []⟩ = pure binds) (hc : ∀ x ∈ fd.scope.names, x.2 ≠ .cell) (hl : ∀ x ∈ binds, fd.scope.names.lookup x.1 = some .local) (g : AllBare s.gens)
    (hco : fd.scope.isCoroutine = false) (hgen : fd.scope.isGenerator = false) (hk : fd.scope.kind = .function)
    (k : ∀ s', Sat s.heap s.heap.objs.size (fun x => binds.reverse.lookup x) [] s.os s.drawn s' →
      wpAny (model prog w) (A.deeper (newEnv fd.scope s.heap.objs.size fd.globals fd.closure (fd.qualname ++ ".<locals>.") (some f) fd.code none fd.builtins)) (execs body (newEnv fd.scope s.heap.objs.size fd.globals fd.closure (fd.qualname ++ ".<locals>.") (some f) fd.code none fd.builtins))
        (fun fl s'' => Q (match fl with | .ret v => v | _ => .none) s'') F0 s') :
    wpAny (model prog w) A (call (.ref f) args) Q E s := by
  refine wpAny_call (codeAny_call_function hd ho hfo hco hgen hb hcd ?_)
  rw [hbind]
  refine wpAny_pure (wpAny_newFunctionEnv hc hl (fun h' hn hsb => ?_) hk)
  refine ⟨hlim.fresh _ hsb, codeAny_func (wpAny_mono (k _ ⟨⟨hn, fun b o e => hsb.extBut b o (Nat.ne_of_lt (Heap.lt_size e)) (Heap.get?_push_of_some _ e), Nat.le_refl _⟩, News.nil, List.nodup_nil, g, rfl, rfl⟩) (fun _ _ h => h) fun _ _ h => h.elim)⟩

theorem Sat.toExt {s₀ : Shared} {L : Addr} {s' : Shared} (S : Sat s₀.heap L m M s₀.os s₀.drawn s') : Ext s₀ s' := ⟨S.fr.keep, S.gb, S.os, S.dr⟩


/-- what a for's turns hand on -/
noncomputable def TurnEnd (h₀ : Heap) (L : Addr) (o : OsState) (d : Drawn) (I : Addr) (oI : Obj) (Jn : (Str → Option Value) → List (Addr × Obj) → Prop) (Q : Flow → Shared → Prop) (f : Flow) (s' : Shared) : Prop := match f with
  | .next => ∃ m' pre post, Sat h₀ L m' (pre ++ (I, oI) :: post) o d s' ∧ Jn m' (pre ++ post)
  | .cont => ∃ m' pre post, Sat h₀ L m' (pre ++ (I, oI) :: post) o d s' ∧ Jn m' (pre ++ post)
  | .brk => Q .next s'
  | .ret v => Q (.ret v) s'

theorem r_walk {x : Str} {px : Pos} {body : List Stmt} {Q : Flow → Shared → Prop} {I : Addr} {fp : List Addr} {n : Nat} {Pv : Nat → Value → Prop} {St : Nat → Heap → Prop}
    (W : Walks prog w A I fp [I] n Pv St) (hlive : ∀ i h, St i h → ∃ oI, h.get? I = some oI) (hI₀ : h₀.get? I = none) (hIL : I ≠ env.locals) (st0 : St 0 s.heap)
    (S : Sat h₀ env.locals m M o d s) (hoff : ∀ p ∈ M, p.1 ≠ I) (J : Nat → (Str → Option Value) → List (Addr × Obj) → Prop) (hj : J 0 m M)
    (Kp : List (Addr × Obj)) (hK : ∀ i m M, J i m M → ∀ p ∈ Kp, p ∈ M) (hfp : ∀ b ∈ fp, b = I ∨ (∃ ob, (b, ob) ∈ Kp) ∨ ∃ ob, h₀.get? b = some ob)
    (turn : ∀ i v m₁ M₁ oI s₁, i < n → Pv i v → J i m₁ M₁ → Sat h₀ env.locals (fun y => if y = x then some v else m₁ y) ((I, oI) :: M₁) o d s₁ →
      wpAny (model prog w) A (execs body env) (TurnEnd h₀ env.locals o d I oI (J (i + 1)) Q) F0 s₁)
    (done : ∀ m₁ M₁ s₁, J n m₁ M₁ → Sat h₀ env.locals m₁ M₁ o d s₁ → Q .next s₁)
    (hl : env.kindOf x = some .local) (hp : (env.scope.kind == .class || (env.scope.kind == .module && env.locals != env.globals)) = false) :
    ForIt prog w A env (.Name x px) body Q (.ref I) s := by
  refine ⟨fun k s' => ∃ i m₁ M₁, i ≤ n ∧ k = n - i ∧ St i s'.heap ∧ Sat h₀ env.locals m₁ M₁ o d s' ∧ (∀ p ∈ M₁, p.1 ≠ I) ∧ J i m₁ M₁, n, ⟨0, m, M, Nat.zero_le _, rfl, st0, S, hoff, hj⟩, ?_⟩
  rintro k s' ⟨i, m₁, M₁, hi, rfl, hst', S', hoff', hJ⟩
  have keepS : ∀ (h' : Heap) (tk : Nat), (∀ b o, b ∉ [I] → s'.heap.get? b = some o → h'.get? b = some o) → Sat h₀ env.locals m₁ M₁ o d { s' with heap := h', toks := tk } := fun h' tk hk =>
    ⟨⟨S'.fr.ns.at' fun o e => hk _ o (fun h => hIL (List.mem_singleton.mp h).symm) e, fun b o e => hk b o (fun h => by rw [List.mem_singleton.mp h] at e; rw [hI₀] at e; cases e) (S'.fr.keep b o e), S'.fr.above⟩,
      fun p hp => ⟨hk _ _ (fun h => hoff' p hp (List.mem_singleton.mp h)) (S'.nw p hp).1, (S'.nw p hp).2⟩, S'.nd, S'.gb, S'.os, S'.dr⟩
  by_cases hlt : i < n
  · refine W.item i s' _ _ hlt hst' fun v h' tk hP hst₁ hk => ?_
    have S₁ := keepS h' tk hk
    obtain ⟨oI, hoI⟩ := hlive _ _ hst₁
    have S₁' : Sat h₀ env.locals m₁ ((I, oI) :: M₁) o d { s' with heap := h', toks := tk } :=
      ⟨S₁.fr, fun p hp => (List.mem_cons.mp hp).elim (fun e => by subst e; exact ⟨hoI, hIL, hI₀⟩) (S₁.nw p), by
        rw [List.map_cons, List.nodup_cons]
        refine ⟨fun h => ?_, S₁.nd⟩
        obtain ⟨p, hp, e⟩ := List.mem_map.mp h
        exact hoff' p hp e, S₁.gb, S₁.os, S₁.dr⟩
    refine wpAny_assign_Name (wpAny_storeName_local hl S₁'.fr.ns (fun h₂ hn₂ hs₂ => ?_) hp)
    have S₂ : Sat h₀ env.locals (fun y => if y = x then some v else m₁ y) ((I, oI) :: M₁) o d { s' with heap := h₂, toks := tk + 1 } := ⟨S₁'.fr.set hn₂ hs₂, S₁'.nw.set hs₂, S₁'.nd, S₁'.gb, S₁'.os, S₁'.dr⟩
    have hst₂ : St (i + 1) h₂ := by
      refine W.frame _ _ _ hst₁ fun b hb ob e => (hs₂.2 b fun q => ?_).trans e
      subst q
      rcases hfp _ hb with h | ⟨ob', h⟩ | ⟨ob', h⟩
      · exact hIL h.symm
      · exact (S₁.nw _ (hK i m₁ M₁ hJ _ h)).2.1 rfl
      · exact absurd (Heap.lt_size h) (Nat.not_lt.mpr S₁.fr.above)
    refine wpAny_mono (turn i v m₁ M₁ oI _ hlt hP hJ S₂) (fun f s₃ h₃ => ?_) fun _ _ h => h
    have fin : (∃ m' pre post, Sat h₀ env.locals m' (pre ++ (I, oI) :: post) o d s₃ ∧ J (i + 1) m' (pre ++ post)) → ∃ k', k' < n - i ∧ ∃ i' m₁ M₁, i' ≤ n ∧ k' = n - i' ∧ St i' s₃.heap ∧ Sat h₀ env.locals m₁ M₁ o d s₃ ∧ (∀ p ∈ M₁, p.1 ≠ I) ∧ J i' m₁ M₁ := by
      rintro ⟨m', pre, post, S₃, hJ₃⟩
      refine ⟨n - (i + 1), by omega, i + 1, m', pre ++ post, hlt, rfl, ?_, S₃.drop, S₃.off, hJ₃⟩
      refine W.frame _ _ _ hst₂ fun b hb ob e => ?_
      rcases hfp _ hb with h | ⟨ob', h⟩ | ⟨ob', h⟩
      · subst h
        have e₂ := (S₂.nw (b, oI) (.head _)).1
        rw [show ob = oI from Option.some.inj (e.symm.trans e₂)]
        exact (S₃.nw (b, oI) (List.mem_append.mpr (.inr (.head _)))).1
      · have e₂ := (S₂.nw _ (.tail _ (hK i m₁ M₁ hJ _ h))).1
        rw [show ob = ob' from Option.some.inj (e.symm.trans e₂)]
        exact (S₃.drop.nw _ (hK _ _ _ hJ₃ _ h)).1
      · rw [show ob = ob' from Option.some.inj (e.symm.trans (S₂.fr.keep _ _ h))]
        exact S₃.fr.keep _ _ h
    cases f with
    | next => exact fin h₃
    | cont => exact fin h₃
    | brk => exact h₃
    | ret v => exact h₃
  · have : i = n := by omega
    subst this
    exact W.done s' _ _ hst' fun h' tk hk => done m₁ M₁ _ hJ (keepS h' tk hk)

theorem Sat.fresh₀ (S : Sat h₀ L m M o d s) : h₀.get? s.heap.objs.size = none := by
  cases hq : h₀.get? s.heap.objs.size with
  | none => rfl
  | some o' => exact absurd (Heap.lt_size (S.fr.keep _ _ hq)) (Nat.lt_irrefl _)
theorem Sat.freshM (S : Sat h₀ L m M o d s) : ∀ p ∈ M, p.1 ≠ s.heap.objs.size := fun p hp e => absurd (Heap.lt_size (S.nw p hp).1) (by rw [e]; exact Nat.lt_irrefl _)
theorem Sat.pushed (S : Sat h₀ L m M o d s) (ob : Obj) : Sat h₀ L m M o d { s with heap := s.heap.push ob } :=
  ⟨S.fr.push _, fun p hp => ⟨Heap.get?_push_of_some _ (S.nw p hp).1, (S.nw p hp).2⟩, S.nd, S.gb, S.os, S.dr⟩

/-- a for over a text -/
theorem r_iterS {x : Str} {px : Pos} {body : List Stmt} {Q : Flow → Shared → Prop} {xt : Str} {tx : Tok} (hh : A.handled = none) (S : Sat h₀ env.locals m M o d s) (J : Nat → (Str → Option Value) → List (Addr × Obj) → Prop) (hj : J 0 m M)
    (turn : ∀ i c t m₁ M₁ I oI s₁, xt.cps[i]? = some c → J i m₁ M₁ → Sat h₀ env.locals (fun y => if y = x then some (.str ⟨#[c]⟩ t) else m₁ y) ((I, oI) :: M₁) o d s₁ →
      wpAny (model prog w) A (execs body env) (TurnEnd h₀ env.locals o d I oI (J (i + 1)) Q) F0 s₁)
    (done : ∀ m₁ M₁ s₁, J xt.cps.size m₁ M₁ → Sat h₀ env.locals m₁ M₁ o d s₁ → Q .next s₁)
    (hl : env.kindOf x = some .local := by rfl) (hp : (env.scope.kind == .class || (env.scope.kind == .module && env.locals != env.globals)) = false := by rfl) :
    wpAny (model prog w) A (pyIter (.str xt tx)) (ForIt prog w A env (.Name x px) body Q) E s := by
  have hIL : s.heap.objs.size ≠ env.locals := Nat.ne_of_gt S.fr.ns.lt
  have go : ∀ (T : String), Walks prog w A s.heap.objs.size [s.heap.objs.size] [s.heap.objs.size] xt.cps.size (SignAt xt) (fun i h => h.IsStrIter s.heap.objs.size T xt tx i) → ∀ ob, (s.heap.push ob).IsStrIter s.heap.objs.size T xt tx 0 → ForIt prog w A env (.Name x px) body Q (.ref s.heap.objs.size) { s with heap := s.heap.push ob } := fun T W ob hst =>
    r_walk W (fun i h st => let ⟨o, ho, _⟩ := st; ⟨o, ho⟩) S.fresh₀ hIL hst (S.pushed ob) S.freshM J hj [] (fun _ _ _ _ _ h => nomatch h) (fun b hb => .inl (List.mem_singleton.mp hb))
      (fun i v m₁ M₁ oI s₁ _ hP hJ S₁ => by obtain ⟨c, u, hc, rfl⟩ := hP; exact turn i c u m₁ M₁ _ oI s₁ hc hJ S₁) done hl hp
  cases ha : xt.cps.all (· < 128)
  · exact wpAny_pyIter_wide ha (go _ (Walks.strWide hh _ xt tx) _ ⟨_, Heap.get?_push_size _ rfl, rfl, rfl⟩)
  · exact wpAny_pyIter_ascii ha (go _ (Walks.strAscii hh _ xt tx) _ ⟨_, Heap.get?_push_size _ rfl, rfl, rfl⟩)
end

end
section
open PySem.Spec PySem.Calls
section
variable {prog : Program} {w : World} {A : Around} {E : Value → Shared → Prop} {s : Shared} {env : Env} {h₀ : Heap} {L : Addr} {m : Str → Option Value} {M : List (Addr × Obj)} {o : OsState} {d : Drawn} {mean : ExcName → Option Value} {mg mb : Str → Option Value}

theorem Gl.at (G : Gl w mean mg mb h₀) (S : Sat h₀ L m M o d s) : Gl w mean mg mb s.heap := G.keeps S.fr.keep

theorem r_glob {x : Str} {pos : Pos} {v : Value} {Q : Value → Shared → Prop} (G : Gl w mean mg mb h₀) (S : Sat h₀ L m M o d s) (e : nsIn (hd.heap_1 w.params) mainGlobals x = some (some v)) (k : Q v s)
    (hk : env.scope.kind = .function := by rfl) (hx : env.kindOf x = some .globalImplicit := by rfl) (hg : env.globals = mainGlobals := by rfl) (hd : (x == ("__debug__" : Str)) = false := by decide) :
    wpAny (model prog w) A (eval (.Name x pos) env) Q E s := by
  refine wpAny_Name ?_ hd
  rw [loadName_read hk hx]
  unfold loadGlobal
  rw [hg]
  exact wpAny_bind ((looks_nsIn (G.at S).kin e).here (wpAny_pure k))

theorem r_blt {x : Str} {pos : Pos} {v : Value} {Q : Value → Shared → Prop} (G : Gl w mean mg mb h₀) (S : Sat h₀ L m M o d s) (e : nsIn (hd.heap_1 w.params) mainGlobals x = some none) (hb : bootBuiltins x = some v) (k : Q v s)
    (hn : x ≠ "__name__" := by decide) (hk : env.scope.kind = .function := by rfl) (hx : env.kindOf x = some .globalImplicit := by rfl) (hg : env.globals = mainGlobals := by rfl) (hbb : env.builtins = builtinsNs := by rfl) (hd : (x == ("__debug__" : Str)) = false := by decide) :
    wpAny (model prog w) A (eval (.Name x pos) env) Q E s := by
  refine wpAny_Name ?_ hd
  rw [loadName_read hk hx]
  have G' := G.at S
  exact loadGlobal_builtin (hg ▸ G'.top.g) (mg_none_of G'.kin G'.top.g e) (hbb ▸ G'.top.b) ((G'.top.builtins x hn).trans hb) k

theorem r_bltF {id : String} {pos : Pos} {Q : Value → Shared → Prop} (G : Gl w mean mg mb h₀) (S : Sat h₀ L m M o d s) (e : nsIn (hd.heap_1 w.params) mainGlobals (Str.ofString id) = some none) (hb : bootBuiltins (Str.ofString id) = some (.builtin id)) (k : Q (.builtin id) s)
    (hn : Str.ofString id ≠ "__name__") (hk : env.scope.kind = .function) (hx : env.kindOf (Str.ofString id) = some .globalImplicit) (hg : env.globals = mainGlobals) (hbb : env.builtins = builtinsNs) (hd : (Str.ofString id == ("__debug__" : Str)) = false) :
    wpAny (model prog w) A (eval (.Name (Str.ofString id) pos) env) Q E s := r_blt G S e hb k hn hk hx hg hbb hd
theorem r_bltT {id : String} {pos : Pos} {Q : Value → Shared → Prop} (G : Gl w mean mg mb h₀) (S : Sat h₀ L m M o d s) (e : nsIn (hd.heap_1 w.params) mainGlobals (Str.ofString id) = some none) (hb : bootBuiltins (Str.ofString id) = some (.type id)) (k : Q (.type id) s)
    (hn : Str.ofString id ≠ "__name__") (hk : env.scope.kind = .function) (hx : env.kindOf (Str.ofString id) = some .globalImplicit) (hg : env.globals = mainGlobals) (hbb : env.builtins = builtinsNs) (hd : (Str.ofString id == ("__debug__" : Str)) = false) :
    wpAny (model prog w) A (eval (.Name (Str.ofString id) pos) env) Q E s := r_blt G S e hb k hn hk hx hg hbb hd

theorem r_callK {pos : Pos} {f : Value} {e : Expr} {rest : List Expr} {Q : Value → Shared → Prop} (G : Gl w mean mg mb h₀) (hk : keepIn (hd.heap_1 w.params) f = true)
    (h : wpAny (model prog w) A (spliced (backTo pos (starEach (e :: rest) env))) (fun vs s₁ => (∃ L m M, Sat h₀ L m M o d s₁) ∧ wpAny (model prog w) A (call f vs) Q E s₁) E s)
    (he : starEach (e :: rest) env = (false, eval e env) :: starEach rest env := by rfl) (hplain : (backTo pos (starEach rest env)).any (·.1) = false := by rfl) :
    wpAny (model prog w) A (callWith pos f [] (backTo pos (starEach (e :: rest) env)) []) Q E s :=
  callWith_K G.kin hk (wpAny_mono h (fun vs s₁ h => ⟨h.1.elim fun L h => h.elim fun m h => h.elim fun M S => (G.at S).kin, h.2⟩) fun _ _ h => h) he hplain

theorem r_range1 {n : Int} {t : Tok} {Q : Value → Shared → Prop} (S : Sat h₀ L m M o d s)
    (k : ∀ a t₁ u₁ v₁ s', Sat h₀ L m ((a, { cls := .type "range", dict := none, data := .fields #[.int 0 t₁, .int n u₁, .int 1 v₁], slots := #[] }) :: M) o d s' → Q (.ref a) s') :
    wpAny (model prog w) A (call (.type "range") [.int n t]) Q E s :=
  call_range_1 (k _ _ _ _ _ ((S.push _).tk _))
theorem r_range3 {a b c : Int} {t u v : Tok} {Q : Value → Shared → Prop} (S : Sat h₀ L m M o d s) (hc : c ≠ 0) (hp : Builtin.divisionGoesByPylong (b - a) c = false)
    (k : ∀ r t₁ u₁ v₁ s', Sat h₀ L m ((r, { cls := .type "range", dict := none, data := .fields #[.int a t₁, .int b u₁, .int c v₁], slots := #[] }) :: M) o d s' → Q (.ref r) s') :
    wpAny (model prog w) A (call (.type "range") [.int a t, .int b u, .int c v]) Q E s :=
  call_range_3 hc (k _ _ _ _ _ ((S.push _).tk _)) (.inl hp)

/-- a for over a range -/
theorem r_iterR {x : Str} {px : Pos} {body : List Stmt} {Q : Flow → Shared → Prop} {r : Addr} {a b c : Int} {t u v : Tok} {n : Nat} (hh : A.handled = none) (S : Sat h₀ env.locals m M o d s)
    (hr : (r, ({ cls := .type "range", dict := none, data := .fields #[.int a t, .int b u, .int c v], slots := #[] } : Obj)) ∈ M) (hsmall : Builtin.Range.small a b c = true) (hn : Builtin.Range.rangeSize a b c = (n : Int))
    (J : Nat → (Str → Option Value) → List (Addr × Obj) → Prop) (hj : J 0 m M)
    (turn : ∀ i t m₁ M₁ I oI s₁, i < n → J i m₁ M₁ → Sat h₀ env.locals (fun y => if y = x then some (.int (a + (i : Nat) * c) t) else m₁ y) ((I, oI) :: M₁) o d s₁ →
      wpAny (model prog w) A (execs body env) (TurnEnd h₀ env.locals o d I oI (J (i + 1)) Q) F0 s₁)
    (done : ∀ m₁ M₁ s₁, J n m₁ M₁ → Sat h₀ env.locals m₁ M₁ o d s₁ → Q .next s₁)
    (hl : env.kindOf x = some .local := by rfl) (hp : (env.scope.kind == .class || (env.scope.kind == .module && env.locals != env.globals)) = false := by rfl) :
    wpAny (model prog w) A (pyIter (.ref r)) (ForIt prog w A env (.Name x px) body Q) E s := by
  have hIL : s.heap.objs.size ≠ env.locals := Nat.ne_of_gt S.fr.ns.lt
  refine wpAny_pyIter_range (S.nw _ hr).1 hsmall ?_
  refine r_walk (Walks.range hh s.heap.objs.size a c n) (fun i h st => ⟨_, st⟩) S.fresh₀ hIL ?_ (S.pushed _) S.freshM J hj [] (fun _ _ _ _ _ h => nomatch h) (fun b hb => .inl (List.mem_singleton.mp hb))
    (fun i v m₁ M₁ oI s₁ hi hP hJ S₁ => by obtain ⟨t, rfl⟩ := hP; exact turn i t m₁ M₁ _ oI s₁ hi hJ S₁) done hl hp
  show IsRangeIter _ _ (a + ((0 : Nat) : Int) * c) ((n : Int) - ((0 : Nat) : Int)) c
  rw [← hn, show a + ((0 : Nat) : Int) * c = a by simp, show Builtin.Range.rangeSize a b c - ((0 : Nat) : Int) = Builtin.Range.rangeSize a b c by simp]
  exact Heap.get?_push_size _ rfl

/-- a for over a list that stands in the ledger, or ahead of the call -/
theorem r_iterL {x : Str} {px : Pos} {body : List Stmt} {Q : Flow → Shared → Prop} {l : Addr} {vs : List Value} (hh : A.handled = none) (S : Sat h₀ env.locals m M o d s)
    (Kp : List (Addr × Obj)) (hl₀ : s.heap.IsList l vs.toArray) (hw : (∃ ob, (l, ob) ∈ Kp) ∨ ∃ ob, h₀.get? l = some ob)
    (J : Nat → (Str → Option Value) → List (Addr × Obj) → Prop) (hK : ∀ i m M, J i m M → ∀ p ∈ Kp, p ∈ M) (hj : J 0 m M)
    (turn : ∀ i v m₁ M₁ I oI s₁, vs[i]? = some v → J i m₁ M₁ → Sat h₀ env.locals (fun y => if y = x then some v else m₁ y) ((I, oI) :: M₁) o d s₁ →
      wpAny (model prog w) A (execs body env) (TurnEnd h₀ env.locals o d I oI (J (i + 1)) Q) F0 s₁)
    (done : ∀ m₁ M₁ s₁, J vs.length m₁ M₁ → Sat h₀ env.locals m₁ M₁ o d s₁ → Q .next s₁)
    (hl : env.kindOf x = some .local := by rfl) (hp : (env.scope.kind == .class || (env.scope.kind == .module && env.locals != env.globals)) = false := by rfl) :
    wpAny (model prog w) A (pyIter (.ref l)) (ForIt prog w A env (.Name x px) body Q) E s := by
  have hIL : s.heap.objs.size ≠ env.locals := Nat.ne_of_gt S.fr.ns.lt
  obtain ⟨ol, hol, _⟩ := id hl₀
  have hne : l ≠ s.heap.objs.size := Nat.ne_of_lt (Heap.lt_size hol)
  refine wpAny_pyIter_list hl₀ ?_
  have W := Walks.list (prog := prog) (w := w) hh s.heap.objs.size l hne vs.toArray
  rw [List.size_toArray] at W
  refine r_walk W (fun i h st => let ⟨o, ho, _⟩ := st.1; ⟨o, ho⟩) S.fresh₀ hIL ⟨⟨_, Heap.get?_push_size _ rfl, rfl, rfl⟩, hl₀.at fun o e => Heap.get?_push_of_some _ e⟩ (S.pushed _) S.freshM J hj Kp hK
    (fun b hb => by
      rcases List.mem_cons.mp hb with h | h
      · exact .inl h
      · rw [List.mem_singleton.mp h]; exact .inr hw)
    (fun i v m₁ M₁ oI s₁ _ hP hJ S₁ => turn i v m₁ M₁ _ oI s₁ (by simpa using hP) hJ S₁) done hl hp
end

end
section
open PySem.Spec PySem.Calls
/-- a text by its signs -/
noncomputable def T (l : List Nat) : Str := ⟨l.toArray⟩
theorem T_length (l : List Nat) : (T l).length = l.length := by show l.toArray.size = _; simp
theorem T_append (a b : List Nat) : T a ++ T b = T (a ++ b) := by
  apply PySem.Str.ext'
  rw [PySem.Str.cps_append]
  show a.toArray ++ b.toArray = (a ++ b).toArray
  simp
theorem T_inj {a b : List Nat} : T a = T b ↔ a = b := ⟨fun h => by have := congrArg (fun x : Str => x.cps.toList) h; simpa [T] using this, fun h => by rw [h]⟩
theorem T_beq (a b : List Nat) : (T a == T b) = decide (a = b) := by
  by_cases h : a = b
  · subst h; simp
  · have : ¬ T a = T b := fun e => h (T_inj.mp e)
    simp [h, this]
theorem T_item (l : List Nat) (i : Nat) (h : i < l.length) : Txt.item (T l) i = T [l[i]] := by
  rw [PySem.W.item_meets (x := T l) (i := (i : Int)) ⟨by omega, by rw [T_length]; omega⟩]
  show PySem.Str.mk _ = PySem.Str.mk _
  congr 1
  simp [T, Array.getD, h]
theorem lit_blank : Str.ofString " " = T [32] := by decide +kernel
theorem lit_o : Str.ofString "o" = T [111] := by decide +kernel
theorem lit_nil : Str.ofString "" = T [] := by decide +kernel

theorem ite_tt {P Q : Prop} (h : P) : if (true : Bool) = true then P else Q := by rw [if_pos rfl]; exact h
theorem ite_ff {P Q : Prop} (h : Q) : if (false : Bool) = true then P else Q := by rw [if_neg Bool.false_ne_true]; exact h

section
variable {prog : Program} {w : World} {A : Around} {E : Value → Shared → Prop} {s : Shared} {env : Env} {h₀ : Heap} {L : Addr} {m : Str → Option Value} {M : List (Addr × Obj)} {o : OsState} {d : Drawn}
theorem r_kT {x : Str} {l : List Nat} {kd : Nat} {pos : Pos} {Q : Value → Shared → Prop} (e : x = T l) (S : Sat h₀ L m M o d s) (k : ∀ t s', Sat h₀ L m M o d s' → Q (.str (T l) t) s') :
    wpAny (model prog w) A (eval (.Constant (.str x) kd pos) env) Q E s := by subst e; exact r_kstr S k
theorem r_addT {a b : List Nat} {t u : Tok} {Q : Value → Shared → Prop} (S : Sat h₀ L m M o d s) (hz : a.length + b.length ≤ 1000) (k : ∀ t s', Sat h₀ L m M o d s' → Q (.str (T (a ++ b)) t) s') :
    wpAny (model prog w) A (binaryOp .Add (.str (T a) t) (.str (T b) u)) Q E s :=
  r_adds S (by rw [T_length, T_length, sizeLine_eq]; omega) (by rw [T_append]; exact k)
theorem r_iaddT {a b : List Nat} {t u : Tok} {Q : Value → Shared → Prop} (S : Sat h₀ L m M o d s) (hz : a.length + b.length ≤ 1000) (k : ∀ t s', Sat h₀ L m M o d s' → Q (.str (T (a ++ b)) t) s') :
    wpAny (model prog w) A (inplaceOp .Add (.str (T a) t) (.str (T b) u)) Q E s :=
  r_iadds S (by rw [T_length, T_length, sizeLine_eq]; omega) (by rw [T_append]; exact k)
theorem r_eqT {a b : List Nat} {t u : Tok} {Q : Value → Shared → Prop} (k : Q (.bool (decide (a = b))) s) : wpAny (model prog w) A (compareOp .Eq (.str (T a) t) (.str (T b) u)) Q E s :=
  eq_str (by rw [T_beq]; exact k)
theorem r_lenT {l : List Nat} {t : Tok} {Q : Value → Shared → Prop} (S : Sat h₀ L m M o d s) (hz : l.length ≤ 1000) (k : ∀ t s', Sat h₀ L m M o d s' → Q (.int l.length t) s') :
    wpAny (model prog w) A (call (.builtin "len") [.str (T l) t]) Q E s := by
  refine r_lenS S (by rw [T_length]; omega) ?_
  rw [T_length]; exact k
theorem r_itemT {value slice : Expr} {l : List Nat} {t u : Tok} {i : Int} {j : Nat} {Q : Value → Shared → Prop} (S : Sat h₀ L m M o d s) (hi : i = j) (h2 : j < l.length) (h3 : l.length ≤ 1000) (k : ∀ t s', Sat h₀ L m M o d s' → Q (.str (T [l[j]]) t) s')
    (e1 : subscripted slice false (.str (T l) t) (.int i u) = operate [.str (T l) t, .int i u] (getItem (.str (T l) t) (.int i u)) := by rfl) (e2 : ∀ r : Value, letTemporaryGo value (.str (T l) t) r = pure () := by intro _; rfl) :
    wpAny (model prog w) A (subscriptTail value slice (.str (T l) t) (.int i u)) Q E s := by
  subst hi
  refine r_itemS S (by omega) (by rw [T_length]; omega) (by rw [T_length]; omega) ?_ e1 e2
  rw [T_item l j h2]; exact k

theorem T_slice (l : List Nat) (a b : Nat) (ha : a ≤ b) (hb : b ≤ l.length) : Txt.slice (T l) (some (a : Int)) (some (b : Int)) = T ((l.drop a).take (b - a)) := by
  have hsz : (T l).length = l.length := T_length l
  have hb' : b ≤ (T l).length := by rw [hsz]; exact hb
  have e := PySem.StrLaws.strSliceIndices_plain (a := a) (b := b) (len := (T l).length) ha hb'
  have e2 := PySem.StrLaws.sliced_plain (T l) ha hb'
  unfold Txt.slice
  split
  · rename_i h
    rw [e, List.length_map, List.length_range, hsz] at h
    simp only [BEq.rfl, Bool.true_and, beq_iff_eq] at h
    have ha0 : a = 0 := by omega
    have hbl : b = l.length := by omega
    subst ha0 hbl
    simp
  · rw [e2]
    rfl
theorem r_sliceT {value lower upper : Expr} {p pos : Pos} {Q : Value → Shared → Prop}
    (h : wpAny (model prog w) A (eval value env) (fun ov s₁ => wpAny (model prog w) A (eval lower env) (fun lv s₂ => wpAny (model prog w) A (eval upper env) (fun uv s₃ =>
      ∃ l t a ta b tb, ov = .str (T l) t ∧ lv = .int a ta ∧ uv = .int b tb ∧ 0 ≤ a ∧ a ≤ b ∧ b ≤ l.length ∧ l.length ≤ 1000 ∧
        ∀ ob n t', ob.isFreed = false → Q (.str (T ((l.drop a.toNat).take (b.toNat - a.toNat))) t') { s₃ with heap := s₃.heap.push ob, toks := n }) E s₂) E s₁) E s)
    (ht : ∀ o r : Value, letTemporaryGo value o r = pure () := by intro _ _; rfl) :
    wpAny (model prog w) A (eval (.Subscript value (.Slice (some lower) (some upper) none p) pos) env) Q E s := by
  refine wpAny_Subscript_str_slice (wpAny_mono h (fun ov s₁ h₁ => wpAny_mono h₁ (fun lv s₂ h₂ => wpAny_mono h₂ (fun uv s₃ h₃ => ?_) fun _ _ e => e) fun _ _ e => e) fun _ _ e => e) ht
  obtain ⟨l, t, a, ta, b, tb, rfl, rfl, rfl, h0, hab, hb, hl, k⟩ := h₃
  refine ⟨T l, t, some (a, ta), some (b, tb), rfl, rfl, rfl, ?_⟩
  have e : Txt.slice (T l) (some a) (some b) = T ((l.drop a.toNat).take (b.toNat - a.toNat)) := by
    have := T_slice l a.toNat b.toNat (by omega) (by omega)
    rwa [Int.toNat_of_nonneg h0, Int.toNat_of_nonneg (by omega)] at this
  refine post_val_or_str ⟨?_, fun t' n => ?_⟩
  · show (Txt.slice (T l) (some a) (some b)).length ≤ _
    rw [e, T_length, sizeLine_eq, List.length_take, List.length_drop]; omega
  · show Q (.str (Txt.slice (T l) (some a) (some b)) t') _
    rw [e]; exact k _ _ _ rfl
end
theorem name_ne {s t : String} (h : ¬ s = t) : ¬ Str.ofString s = Str.ofString t := by
  rw [Str.ofString_eq_toList, Str.ofString_eq_toList]
  intro e
  have e1 : (s.toList.map Char.toNat).toArray = (t.toList.map Char.toNat).toArray := congrArg Str.cps e
  have e2 : s.toList.map Char.toNat = t.toList.map Char.toNat := by simpa using e1
  have inj : ∀ a b : List Char, a.map Char.toNat = b.map Char.toNat → a = b := by
    intro a
    induction a with
    | nil => intro b h; cases b with | nil => rfl | cons c r => simp at h
    | cons c r ih =>
      intro b h
      cases b with
      | nil => simp at h
      | cons c' r' =>
        rw [List.map_cons, List.map_cons, List.cons.injEq] at h
        rw [ih r' h.2, Char.toNat_inj.mp h.1]
  exact h (String.toList_inj.mp (inj _ _ e2))
theorem if_nm {α : Type} {s t : String} {a b c : α} (h : ¬ s = t) (k : b = c) : (if Str.ofString s = Str.ofString t then a else b) = c := (if_neg (name_ne h)).trans k
theorem if_same {α : Type} {s : String} {a b : α} : (if Str.ofString s = Str.ofString s then a else b) = a := if_pos rfl

end
section
open PySem.Spec PySem.Calls
/-- the objects N are new, all that stood stands -/
structure Grow (s s' : Shared) (N : List (Addr × Obj)) : Prop where
  keep : ∀ b o, s.heap.get? b = some o → s'.heap.get? b = some o
  here : ∀ p ∈ N, s'.heap.get? p.1 = some p.2 ∧ s.heap.get? p.1 = none
  nd : (N.map (·.1)).Nodup
  gb : AllBare s'.gens
  os : s'.os = s.os
  dr : s'.drawn = s.drawn

section
variable {prog : Program} {w : World} {A : Around} {E : Value → Shared → Prop} {s s' : Shared} {env : Env} {h₀ : Heap} {L : Addr} {m : Str → Option Value} {M N : List (Addr × Obj)} {o : OsState} {d : Drawn}

theorem Sat.toGrow {s₀ : Shared} {L : Addr} (S : Sat s₀.heap L m M s₀.os s₀.drawn s') : Grow s₀ s' M := ⟨S.fr.keep, fun p hp => ⟨(S.nw p hp).1, (S.nw p hp).2.2⟩, S.nd, S.gb, S.os, S.dr⟩
theorem Grow.toExt (G : Grow s s' N) : Ext s s' := ⟨G.keep, G.gb, G.os, G.dr⟩

theorem Sat.grow (S : Sat h₀ L m M o d s) (G : Grow s s' N) : Sat h₀ L m (N ++ M) o d s' := by
  have X := S.ext G.toExt
  refine ⟨X.fr, fun p hp => ?_, ?_, X.gb, X.os, X.dr⟩
  · rcases List.mem_append.mp hp with h | h
    · refine ⟨(G.here p h).1, fun e => ?_, ?_⟩
      · obtain ⟨o', _, _, ho, _⟩ := S.fr.ns
        rw [← e, (G.here p h).2] at ho; cases ho
      · cases e : h₀.get? p.1 with
        | none => rfl
        | some o' => have := S.fr.keep _ _ e; rw [(G.here p h).2] at this; cases this
    · exact X.nw p h
  · rw [List.map_append, List.nodup_append]
    refine ⟨G.nd, S.nd, fun a ha b hb e => ?_⟩
    obtain ⟨p, hp, rfl⟩ := List.mem_map.mp ha
    obtain ⟨q, hq, rfl⟩ := List.mem_map.mp hb
    have h1 := (S.nw q hq).1
    rw [← e, (G.here p hp).2] at h1; cases h1

theorem Grow.sub {N' : List (Addr × Obj)} (G : Grow s s' N) (h : ∀ p ∈ N', p ∈ N) (hn : (N'.map (·.1)).Nodup) : Grow s s' N' := ⟨G.keep, fun p hp => G.here p (h p hp), hn, G.gb, G.os, G.dr⟩

theorem Sat.at (S : Sat h₀ L m M o d s) {p : Addr × Obj} (h : p ∈ M) : s.heap.get? p.1 = some p.2 := (S.nw p h).1

/-- a ledger in another order -/
theorem Sat.perm {M' : List (Addr × Obj)} (S : Sat h₀ L m M o d s) (h : M'.Perm M) : Sat h₀ L m M' o d s := S.sub (fun p hp => h.mem_iff.mp hp) ((h.map _).nodup_iff.mpr S.nd)

theorem Sat.other (S : Sat h₀ L m M o d s) {a b : Addr} {x y : Obj} (ha : (a, x) ∈ M) (hb : (b, y) ∈ M) (h : x ≠ y) : a ≠ b := fun e => by
  subst e
  have h1 := S.at ha
  have h2 := S.at hb
  rw [h1] at h2
  exact h (Option.some.inj h2)
theorem Sat.inj (S : Sat h₀ L m M o d s) {a : Addr} {x y : Obj} (ha : (a, x) ∈ M) (hb : (a, y) ∈ M) : x = y := Option.some.inj ((S.at ha).symm.trans (S.at hb))

/-- the ledger with another object at a -/
noncomputable def chg (M : List (Addr × Obj)) (a : Addr) (ob : Obj) : List (Addr × Obj) := M.map fun p => if p.1 = a then (a, ob) else p
theorem chg_mem {M : List (Addr × Obj)} {a : Addr} {ob ob' : Obj} (h : (a, ob) ∈ M) : (a, ob') ∈ chg M a ob' := List.mem_map.mpr ⟨_, h, by simp⟩
theorem chg_off {M : List (Addr × Obj)} {a : Addr} {ob' : Obj} {p : Addr × Obj} (h : p ∈ M) (hp : p.1 ≠ a) : p ∈ chg M a ob' := List.mem_map.mpr ⟨p, h, by simp [hp]⟩
theorem chg_keys (M : List (Addr × Obj)) (a : Addr) (ob : Obj) : (chg M a ob).map (·.1) = M.map (·.1) := by
  unfold chg; rw [List.map_map]
  refine List.map_congr_left fun p _ => ?_
  show (if p.1 = a then (a, ob) else p).1 = p.1
  split
  · rename_i h; exact h.symm
  · rfl
theorem chg_cons (M : List (Addr × Obj)) (a : Addr) (ob ob' : Obj) : chg ((a, ob) :: M) a ob' = (a, ob') :: chg M a ob' := by simp [chg]
theorem chg_skip (M : List (Addr × Obj)) (p : Addr × Obj) (a : Addr) (ob' : Obj) (h : p.1 ≠ a) : chg (p :: M) a ob' = p :: chg M a ob' := by simp [chg, h]
theorem chg_app (M N : List (Addr × Obj)) (a : Addr) (ob' : Obj) : chg (M ++ N) a ob' = chg M a ob' ++ chg N a ob' := by simp [chg]
theorem Sat.chg {a : Addr} {ob ob' : Obj} {h' : Heap} (S : Sat h₀ L m M o d s) (hm : (a, ob) ∈ M) (hs : Heap.SameBut a s.heap h') (ho : h'.get? a = some ob') (n : Nat) :
    Sat h₀ L m (Mine.chg M a ob') o d { s with heap := h', toks := n } := by
  refine ⟨S.fr.update S.nw hm hs, fun p hp => ?_, by rw [chg_keys]; exact S.nd, S.gb, S.os, S.dr⟩
  obtain ⟨q, hq, rfl⟩ := List.mem_map.mp hp
  by_cases e : q.1 = a
  · simp only [e, if_true]
    exact ⟨ho, (S.nw _ hm).2⟩
  · simp only [e, if_false]
    exact ⟨(hs.2 _ e).trans (S.nw q hq).1, (S.nw q hq).2⟩

/-- a pair's two names -/
theorem r_asgP {a b : Str} {pa pb tp : Pos} {kk : Nat} {t : Addr} {x y : Value} {Q : Unit → Shared → Prop} (hh : A.handled = none) (S : Sat h₀ env.locals m M o d s) (ht : s.heap.IsTuple t #[x, y])
    (k : ∀ s', Sat h₀ env.locals (fun z => if z = b then some y else if z = a then some x else m z) M o d s' → Q () s')
    (ha : env.kindOf a = some .local := by rfl) (hb : env.kindOf b = some .local := by rfl) (hp : (env.scope.kind == .class || (env.scope.kind == .module && env.locals != env.globals)) = false := by rfl) :
    wpAny (model prog w) A (assign (.Tuple [.Name a pa, .Name b pb] kk tp) env (.ref t)) Q E s := by
  refine kcp_assign hh ht ha hb hp S.fr.ns fun h' tk hn hk => k _ ?_
  have hL : ∀ b o, h₀.get? b = some o → b ≠ env.locals := fun b o e => Nat.ne_of_lt (Nat.lt_of_lt_of_le (Heap.lt_size e) S.fr.above)
  exact ⟨⟨hn, fun b o e => hk b o (hL b o e) (S.fr.keep b o e), S.fr.above⟩, fun p hp => ⟨hk _ _ (S.nw p hp).2.1 (S.nw p hp).1, (S.nw p hp).2⟩, S.nd, S.gb, S.os, S.dr⟩
theorem r_asgN {x : Str} {px : Pos} {v : Value} {Q : Unit → Shared → Prop} (S : Sat h₀ env.locals m M o d s)
    (k : ∀ s', Sat h₀ env.locals (fun y => if y = x then some v else m y) M o d s' → Q () s') (hl : env.kindOf x = some .local := by rfl)
    (hp : (env.scope.kind == .class || (env.scope.kind == .module && env.locals != env.globals)) = false := by rfl) :
    wpAny (model prog w) A (assign (.Name x px) env v) Q E s := wpAny_assign_Name (r_st S k hl hp)

theorem go_list {target : Expr} {I l : Addr} {i : Nat} {v : Value} {Q : Unit → Shared → Prop} (hit : s.heap.IsListIter I l i) (hQ : Q () s) : wpAny (model prog w) A (letOwnedTupleGo target (.ref I) v) Q E s := by
  have key : ∀ (T : Addr), wpAny (model prog w) A (letOwnedTupleGo (.Tuple [] 0 default) (.ref I) (.ref T)) Q E s := fun T => wpAny_letOwnedTupleGo_listiter hit hQ
  cases target <;> cases v <;> first | exact wpAny_pure hQ | exact key _

/-- neither list nor tuple -/
noncomputable def NotLT (ob : Obj) : Prop := ob.cls ≠ .type "list" ∧ ob.cls ≠ .type "tuple"

noncomputable abbrev ForItG (prog : Program) (w : World) (A : Around) (env : Env) (target : Expr) (body : List Stmt) (Q : Flow → Shared → Prop) (it : Value) (s₂ : Shared) : Prop :=
  ∃ (I : Nat → Shared → Prop) (n : Nat), I n s₂ ∧ ∀ n s, I n s → wpAny (model prog w) A (pyNext it) (fun r s₁ => match r with
        | none => Q .next s₁
        | some v => wpAny (model prog w) A (letOwnedTupleGo target it v) (fun _ s₁' => wpAny (model prog w) A (assign target env v) (fun _ s₂ => wpAny (model prog w) A (execs body env)
            (fun f s₃ => match f with | .next => ∃ m, m < n ∧ I m s₃ | .cont => ∃ m, m < n ∧ I m s₃ | .brk => Q .next s₃ | .ret v => Q (.ret v) s₃) F0 s₂) F0 s₁') F0 s₁) F0 s
theorem r_forG {target iter : Expr} {body : List Stmt} {pos : Pos} {Q : Flow → Shared → Prop}
    (h : wpAny (model prog w) A (eval iter env) (fun x s₁ => wpAny (model prog w) A (pyIter x) (fun it s₂ =>
      ForItG prog w A env target body Q it s₂) E s₁) E s)
    (hs : ∀ x, foldedSetIterable iter env x = pure x := by intro _; rfl) :
    wpAny (model prog w) A (exec (.For target iter body [] pos) env) Q E s := by
  refine wpAny_For (wpAny_mono h (fun x s₁ h₁ => wpAny_mono h₁ (fun it s₂ h₂ => ?_) fun _ _ h => h) fun _ _ h => h) hs
  obtain ⟨I, n, hI, turn⟩ := h₂
  refine codeAny_forLoop_any I (fun n s hI => wpAny_mono (turn n s hI) (fun r s₁ hr => ?_) fun _ _ h => h.elim) n hI
  cases r with
  | none => exact wpAny_execs_nil hr
  | some v =>
    refine wpAny_mono hr (fun _ s₁' hr' => wpAny_mono hr' (fun _ s₂ hb => wpAny_mono hb (fun f s₃ hf => ?_) fun _ _ h => h.elim) fun _ _ h => h.elim) fun _ _ h => h.elim
    cases f <;> exact hf

theorem r_walkG {target : Expr} {body : List Stmt} {Q : Flow → Shared → Prop} {I : Addr} {fp : List Addr} {n : Nat} {Pv : Nat → Value → Prop} {St : Nat → Heap → Prop}
    (W : Walks prog w A I fp [I] n Pv St) (hlive : ∀ i h, St i h → ∃ oI, h.get? I = some oI)
    (hkd : ∀ i h oI, St i h → h.get? I = some oI → NotLT oI)
    (hgo : ∀ i (s : Shared) v (Q : Unit → Shared → Prop) (E : Value → Shared → Prop), St i s.heap → Q () s → wpAny (model prog w) A (letOwnedTupleGo target (.ref I) v) Q E s)
    (hI₀ : h₀.get? I = none) (hIL : I ≠ env.locals) (st0 : St 0 s.heap)
    (S : Sat h₀ env.locals m M o d s) (hoff : ∀ p ∈ M, p.1 ≠ I) (J : Nat → (Str → Option Value) → List (Addr × Obj) → Prop) (hj : J 0 m M)
    (Kp : List (Addr × Obj)) (hK : ∀ i m M, J i m M → ∀ p ∈ Kp, p ∈ M) (hfp : ∀ b ∈ fp, b = I ∨ (∃ ob, (b, ob) ∈ Kp) ∨ ∃ ob, h₀.get? b = some ob)
    (turn : ∀ i v m₁ M₁ oI s₁, i < n → Pv i v → NotLT oI → J i m₁ M₁ → Sat h₀ env.locals m₁ ((I, oI) :: M₁) o d s₁ →
      wpAny (model prog w) A (assign target env v) (fun _ s₂ => wpAny (model prog w) A (execs body env) (TurnEnd h₀ env.locals o d I oI (J (i + 1)) Q) F0 s₂) F0 s₁)
    (done : ∀ m₁ M₁ s₁, J n m₁ M₁ → Sat h₀ env.locals m₁ M₁ o d s₁ → Q .next s₁) :
    ForItG prog w A env target body Q (.ref I) s := by
  refine ⟨fun k s' => ∃ i m₁ M₁, i ≤ n ∧ k = n - i ∧ St i s'.heap ∧ Sat h₀ env.locals m₁ M₁ o d s' ∧ (∀ p ∈ M₁, p.1 ≠ I) ∧ J i m₁ M₁, n, ⟨0, m, M, Nat.zero_le _, rfl, st0, S, hoff, hj⟩, ?_⟩
  rintro k s' ⟨i, m₁, M₁, hi, rfl, hst', S', hoff', hJ⟩
  have keepS : ∀ (h' : Heap) (tk : Nat), (∀ b o, b ∉ [I] → s'.heap.get? b = some o → h'.get? b = some o) → Sat h₀ env.locals m₁ M₁ o d { s' with heap := h', toks := tk } := fun h' tk hk =>
    ⟨⟨S'.fr.ns.at' fun o e => hk _ o (fun h => hIL (List.mem_singleton.mp h).symm) e, fun b o e => hk b o (fun h => by rw [List.mem_singleton.mp h] at e; rw [hI₀] at e; cases e) (S'.fr.keep b o e), S'.fr.above⟩,
      fun p hp => ⟨hk _ _ (fun h => hoff' p hp (List.mem_singleton.mp h)) (S'.nw p hp).1, (S'.nw p hp).2⟩, S'.nd, S'.gb, S'.os, S'.dr⟩
  by_cases hlt : i < n
  · refine W.item i s' _ _ hlt hst' fun v h' tk hP hst₁ hk => ?_
    have S₁ := keepS h' tk hk
    obtain ⟨oI, hoI⟩ := hlive _ _ hst₁
    have S₁' : Sat h₀ env.locals m₁ ((I, oI) :: M₁) o d { s' with heap := h', toks := tk } :=
      ⟨S₁.fr, fun p hp => (List.mem_cons.mp hp).elim (fun e => by subst e; exact ⟨hoI, hIL, hI₀⟩) (S₁.nw p), by
        rw [List.map_cons, List.nodup_cons]
        refine ⟨fun h => ?_, S₁.nd⟩
        obtain ⟨p, hp, e⟩ := List.mem_map.mp h
        exact hoff' p hp e, S₁.gb, S₁.os, S₁.dr⟩
    refine hgo _ _ _ _ _ hst₁ ?_
    refine wpAny_mono (turn i v m₁ M₁ oI _ hlt hP (hkd _ _ _ hst₁ hoI) hJ S₁') (fun _ s₂ h₂ => wpAny_mono h₂ (fun f s₃ h₃ => ?_) fun _ _ h => h) fun _ _ h => h
    have fin : (∃ m' pre post, Sat h₀ env.locals m' (pre ++ (I, oI) :: post) o d s₃ ∧ J (i + 1) m' (pre ++ post)) → ∃ k', k' < n - i ∧ ∃ i' m₁ M₁, i' ≤ n ∧ k' = n - i' ∧ St i' s₃.heap ∧ Sat h₀ env.locals m₁ M₁ o d s₃ ∧ (∀ p ∈ M₁, p.1 ≠ I) ∧ J i' m₁ M₁ := by
      rintro ⟨m', pre, post, S₃, hJ₃⟩
      refine ⟨n - (i + 1), by omega, i + 1, m', pre ++ post, hlt, rfl, ?_, S₃.drop, S₃.off, hJ₃⟩
      refine W.frame _ _ _ hst₁ fun b hb ob e => ?_
      rcases hfp _ hb with h | ⟨ob', h⟩ | ⟨ob', h⟩
      · subst h
        have e₂ := (S₁'.nw (b, oI) (.head _)).1
        rw [show ob = oI from Option.some.inj (e.symm.trans e₂)]
        exact (S₃.nw (b, oI) (List.mem_append.mpr (.inr (.head _)))).1
      · have e₂ := (S₁'.nw _ (.tail _ (hK i m₁ M₁ hJ _ h))).1
        rw [show ob = ob' from Option.some.inj (e.symm.trans e₂)]
        exact (S₃.drop.nw _ (hK _ _ _ hJ₃ _ h)).1
      · rw [show ob = ob' from Option.some.inj (e.symm.trans (S₁'.fr.keep _ _ h))]
        exact S₃.fr.keep _ _ h
    cases f with
    | next => exact fin h₃
    | cont => exact fin h₃
    | brk => exact h₃
    | ret v => exact h₃
  · have : i = n := by omega
    subst this
    exact W.done s' _ _ hst' fun h' tk hk => done m₁ M₁ _ hJ (keepS h' tk hk)

/-- a for over a list, any target -/
theorem r_iterLG {target : Expr} {body : List Stmt} {Q : Flow → Shared → Prop} {l : Addr} {vs : List Value} (hh : A.handled = none) (S : Sat h₀ env.locals m M o d s)
    (Kp : List (Addr × Obj)) (hl₀ : s.heap.IsList l vs.toArray) (hw : (∃ ob, (l, ob) ∈ Kp) ∨ ∃ ob, h₀.get? l = some ob)
    (J : Nat → (Str → Option Value) → List (Addr × Obj) → Prop) (hK : ∀ i m M, J i m M → ∀ p ∈ Kp, p ∈ M) (hj : J 0 m M)
    (turn : ∀ i v m₁ M₁ I oI s₁, vs[i]? = some v → NotLT oI → J i m₁ M₁ → Sat h₀ env.locals m₁ ((I, oI) :: M₁) o d s₁ →
      wpAny (model prog w) A (assign target env v) (fun _ s₂ => wpAny (model prog w) A (execs body env) (TurnEnd h₀ env.locals o d I oI (J (i + 1)) Q) F0 s₂) F0 s₁)
    (done : ∀ m₁ M₁ s₁, J vs.length m₁ M₁ → Sat h₀ env.locals m₁ M₁ o d s₁ → Q .next s₁) :
    wpAny (model prog w) A (pyIter (.ref l)) (ForItG prog w A env target body Q) E s := by
  have hIL : s.heap.objs.size ≠ env.locals := Nat.ne_of_gt S.fr.ns.lt
  obtain ⟨ol, hol, _⟩ := id hl₀
  have hne : l ≠ s.heap.objs.size := Nat.ne_of_lt (Heap.lt_size hol)
  refine wpAny_pyIter_list hl₀ ?_
  have W := Walks.list (prog := prog) (w := w) hh s.heap.objs.size l hne vs.toArray
  rw [List.size_toArray] at W
  refine r_walkG W (fun i h st => let ⟨o, ho, _⟩ := st.1; ⟨o, ho⟩) (fun i h oI st e => by obtain ⟨o', ho', hc, _⟩ := st.1; have e' := Option.some.inj (e.symm.trans ho'); rw [e']; exact ⟨by rw [hc]; decide, by rw [hc]; decide⟩) (fun i s v Q E st hq => go_list st.1 hq) S.fresh₀ hIL ⟨⟨_, Heap.get?_push_size _ rfl, rfl, rfl⟩, hl₀.at fun o e => Heap.get?_push_of_some _ e⟩ (S.pushed _) S.freshM J hj Kp hK
    (fun b hb => by
      rcases List.mem_cons.mp hb with h | h
      · exact .inl h
      · rw [List.mem_singleton.mp h]; exact .inr hw)
    (fun i v m₁ M₁ oI s₁ _ hP hK hJ S₁ => turn i v m₁ M₁ _ oI s₁ (by simpa using hP) hK hJ S₁) done

/-- a for over a range, the iterator's kind told -/
theorem r_iterRG {target : Expr} {body : List Stmt} {Q : Flow → Shared → Prop} {r : Addr} {a b c : Int} {t u v : Tok} {n : Nat} {x : Str} {px : Pos} (htg : target = .Name x px) (hh : A.handled = none) (S : Sat h₀ env.locals m M o d s)
    (hr : (r, ({ cls := .type "range", dict := none, data := .fields #[.int a t, .int b u, .int c v], slots := #[] } : Obj)) ∈ M) (hsmall : Builtin.Range.small a b c = true) (hn : Builtin.Range.rangeSize a b c = (n : Int))
    (J : Nat → (Str → Option Value) → List (Addr × Obj) → Prop) (hj : J 0 m M)
    (turn : ∀ i t m₁ M₁ I oI s₁, i < n → NotLT oI → J i m₁ M₁ → Sat h₀ env.locals m₁ ((I, oI) :: M₁) o d s₁ →
      wpAny (model prog w) A (assign target env (.int (a + (i : Nat) * c) t)) (fun _ s₂ => wpAny (model prog w) A (execs body env) (TurnEnd h₀ env.locals o d I oI (J (i + 1)) Q) F0 s₂) F0 s₁)
    (done : ∀ m₁ M₁ s₁, J n m₁ M₁ → Sat h₀ env.locals m₁ M₁ o d s₁ → Q .next s₁) :
    wpAny (model prog w) A (pyIter (.ref r)) (ForItG prog w A env target body Q) E s := by
  subst htg
  have hIL : s.heap.objs.size ≠ env.locals := Nat.ne_of_gt S.fr.ns.lt
  refine wpAny_pyIter_range (S.nw _ hr).1 hsmall ?_
  refine r_walkG (Walks.range hh s.heap.objs.size a c n) (fun i h st => ⟨_, st⟩) (fun i h oI st e => by have e' := Option.some.inj (e.symm.trans st); rw [e']; exact ⟨(show Value.type "range_iterator" ≠ Value.type "list" by decide), (show Value.type "range_iterator" ≠ Value.type "tuple" by decide)⟩) (fun i s v Q E st hq => wpAny_pure hq) S.fresh₀ hIL ?_ (S.pushed _) S.freshM J hj [] (fun _ _ _ _ _ h => nomatch h) (fun b hb => .inl (List.mem_singleton.mp hb))
    (fun i v m₁ M₁ oI s₁ hi hP hK hJ S₁ => by obtain ⟨t, rfl⟩ := hP; exact turn i t m₁ M₁ _ oI s₁ hi hK hJ S₁) done
  show IsRangeIter _ _ (a + ((0 : Nat) : Int) * c) ((n : Int) - ((0 : Nat) : Int)) c
  rw [← hn, show a + ((0 : Nat) : Int) * c = a by simp, show Builtin.Range.rangeSize a b c - ((0 : Nat) : Int) = Builtin.Range.rangeSize a b c by simp]
  exact Heap.get?_push_size _ rfl

/-- what can be walked along, in every heap that keeps h -/
noncomputable def Itb (prog : Program) (w : World) (A : Around) (h : Heap) (x : Value) (target : Expr) (n : Nat) (Pv : Nat → Value → Prop) : Prop :=
  ∀ (s : Shared) (Q E : Value → Shared → Prop), (∀ b o, h.get? b = some o → s.heap.get? b = some o) →
    (∀ ob fp St, Walks prog w A s.heap.objs.size fp [s.heap.objs.size] n Pv St → ob.isFreed = false → (∀ b ∈ fp, b = s.heap.objs.size ∨ ∃ o, h.get? b = some o) → (∀ i h, St i h → ∃ oI, h.get? s.heap.objs.size = some oI) →
      (∀ i (s' : Shared) v (Q : Unit → Shared → Prop) (E : Value → Shared → Prop), St i s'.heap → Q () s' → wpAny (model prog w) A (letOwnedTupleGo target (.ref s.heap.objs.size) v) Q E s') →
      St 0 (s.heap.push ob) → Q (.ref s.heap.objs.size) { s with heap := s.heap.push ob }) → wpAny (model prog w) A (pyIter x) Q E s

theorem itb_list {l : Addr} {vs : List Value} {h : Heap} {target : Expr} (hh : A.handled = none) (hl : h.IsList l vs.toArray) : Itb prog w A h (.ref l) target vs.length (fun i v => vs[i]? = some v) := by
  intro s Q E hk k
  have hl₀ : s.heap.IsList l vs.toArray := hl.at fun o e => hk _ o e
  obtain ⟨ol, hol, _⟩ := id hl
  have hne : l ≠ s.heap.objs.size := Nat.ne_of_lt (Heap.lt_size (hk _ _ hol))
  refine wpAny_pyIter_list hl₀ ?_
  have W := Walks.list (prog := prog) (w := w) hh s.heap.objs.size l hne vs.toArray
  rw [List.size_toArray] at W
  have W' : Walks prog w A s.heap.objs.size [s.heap.objs.size, l] [s.heap.objs.size] vs.length (fun i v => vs[i]? = some v) _ :=
    ⟨W.sub, W.frame, fun i s' Q E hi st hQ => W.item i s' Q E hi st fun v h' tk hv => hQ v h' tk (by simpa using hv), W.done, W.self⟩
  refine k _ _ _ W' rfl (fun b hb => ?_) (fun i h st => let ⟨o, ho, _⟩ := st.1; ⟨o, ho⟩) (fun i s v Q E st hq => go_list st.1 hq) ⟨⟨_, Heap.get?_push_size _ rfl, rfl, rfl⟩, hl₀.at fun o e => Heap.get?_push_of_some _ e⟩
  rcases List.mem_cons.mp hb with h | h
  · exact .inl h
  · rw [List.mem_singleton.mp h]; exact .inr ⟨_, hol⟩

theorem itb_str {xt : Str} {tx : Tok} {h : Heap} {x : Str} {px : Pos} (hh : A.handled = none) : Itb prog w A h (.str xt tx) (.Name x px) xt.cps.size (SignAt xt) := by
  intro s Q E hk k
  cases ha : xt.cps.all (· < 128)
  · exact wpAny_pyIter_wide ha (k _ _ _ (Walks.strWide hh _ xt tx) rfl (fun b hb => .inl (List.mem_singleton.mp hb)) (fun i h st => let ⟨o, ho, _⟩ := st; ⟨o, ho⟩) (fun i s v Q E st hq => wpAny_pure hq) ⟨_, Heap.get?_push_size _ rfl, rfl, rfl⟩)
  · exact wpAny_pyIter_ascii ha (k _ _ _ (Walks.strAscii hh _ xt tx) rfl (fun b hb => .inl (List.mem_singleton.mp hb)) (fun i h st => let ⟨o, ho, _⟩ := st; ⟨o, ho⟩) (fun i s v Q E st hq => wpAny_pure hq) ⟨_, Heap.get?_push_size _ rfl, rfl, rfl⟩)

theorem itb_range {r : Addr} {a b c : Int} {t u v : Tok} {n : Nat} {h : Heap} {x : Str} {px : Pos} (hh : A.handled = none)
    (hr : h.get? r = some { cls := .type "range", dict := none, data := .fields #[.int a t, .int b u, .int c v], slots := #[] }) (hsmall : Builtin.Range.small a b c = true) (hn : Builtin.Range.rangeSize a b c = (n : Int)) :
    Itb prog w A h (.ref r) (.Name x px) n (fun i y => ∃ t, y = .int (a + (i : Nat) * c) t) := by
  intro s Q E hk k
  refine wpAny_pyIter_range (hk _ _ hr) hsmall ?_
  refine k _ _ _ (Walks.range hh s.heap.objs.size a c n) rfl (fun b hb => .inl (List.mem_singleton.mp hb)) (fun i h st => ⟨_, st⟩) (fun i s v Q E st hq => wpAny_pure hq) ?_
  show IsRangeIter _ _ (a + ((0 : Nat) : Int) * c) ((n : Int) - ((0 : Nat) : Int)) c
  rw [← hn, show a + ((0 : Nat) : Int) * c = a by simp, show Builtin.Range.rangeSize a b c - ((0 : Nat) : Int) = Builtin.Range.rangeSize a b c by simp]
  exact Heap.get?_push_size _ rfl
end

end
section
open PySem.Spec PySem.Calls
open PyProof.Rows.LCg (lst lst_snoc)
section
variable {prog : Program} {w : World} {A : Around} {E : Value → Shared → Prop} {s s' : Shared} {env : Env} {h₀ : Heap} {L : Addr} {m : Str → Option Value} {M N : List (Addr × Obj)} {o : OsState} {d : Drawn}

/-- a block's turn has ended, with the list ys behind it -/
noncomputable def BlkEnd (h₀ : Heap) (C : Addr) (o : OsState) (d : Drawn) (I : Addr) (oI : Obj) (D : Addr) (ys : List Value) (Jn : List (Addr × Obj) → Prop) (s' : Shared) : Prop :=
  ∃ m' pre news, Sat h₀ C m' (pre ++ (I, oI) :: (D, lst ys) :: news) o d s' ∧ Jn (pre ++ news)

noncomputable abbrev testsOf (ifs : List Expr) (env : Env) : Sem Bool := forIn ifs true fun c r => if r = true then do let ok ← isTrue c env (eval c env); pure (ForInStep.yield ok) else pure (ForInStep.yield r)

inductive BlkOn (prog : Program) (w : World) (A : Around) (elt target : Expr) (ifs : List Expr) (scope : Scope) (cl : List (Str × Addr)) (env : Env) (Q : Value → Shared → Prop) (xv : Value) (s₁ : Shared) : Prop
  | mk (o : OsState) (d : Drawn) (n : Nat) (Pv : Nat → Value → Prop) (J : Nat → List Value → List (Addr × Obj) → Prop) (h1 : AllBare s₁.gens)
    (h2 : s₁.os = o)
    (h3 : s₁.drawn = d)
    (h4 : n ≤ 1000000)
    (h5 : Itb prog w A s₁.heap xv target n Pv)
    (h6 : J 0 [] [])
    (h7 : (∀ i ys news, J i ys news → ys.length ≤ i))
    (h8 : (∀ i v ys m₁ news I oI D C s₂, i < n → Pv i v → J i ys news → Sat s₁.heap C m₁ ((I, oI) :: (D, lst ys) :: news) o d s₂ →
      wpAny (model prog w) A (assign target (compEnvC scope cl C env) v) (fun _ s₃ => wpAny (model prog w) A (testsOf ifs (compEnvC scope cl C env)) (fun ok s₄ =>
        if ok = true then wpAny (model prog w) A (eval elt (compEnvC scope cl C env)) (fun y s₅ => BlkEnd s₁.heap C o d I oI D ys (J (i + 1) (ys ++ [y])) s₅) F0 s₄ else BlkEnd s₁.heap C o d I oI D ys (J (i + 1) ys) s₄) F0 s₃) F0 s₂))
    (h9 : (∀ D ys news s', J n ys news → Grow s₁ s' ((D, lst ys) :: news) → Q (.ref D) s')) : BlkOn prog w A elt target ifs scope cl env Q xv s₁

theorem app_at {D : Addr} {ys : List Value} {y : Value} {Q : Value → Shared → Prop} (S : Sat h₀ L m M o d s) (hm : (D, lst ys) ∈ M) (hsz : ys.length ≤ 1000000)
    (k : ∀ s', Sat h₀ L m (chg M D (lst (ys ++ [y]))) o d s' → Q .none s') : wpAny (model prog w) A (call (.builtin "list.append") [.ref D, y]) Q E s := by
  refine append_at (S.at hm) (fun h' hs hD => k _ (S.chg hm hs (hD.trans (congrArg some (lst_snoc ys y))) s.toks)) ?_
  rw [List.size_toArray, sizeLine_eq]; omega

theorem r_comp {elt target iter : Expr} {ifs : List Expr} {scope : Scope} {cl : List (Str × Addr)} {pos : Pos} {Q : Value → Shared → Prop}
    (hclos : closureFor scope env = pure cl) (hcell : ∀ y ∈ scope.names, y.2 ≠ .cell) (hkind : scope.kind = .function) (hnames : ∀ y ∈ scope.names, y.2 = .local → scope.names.lookup y.1 = some .local)
    (h : wpAny (model prog w) A (eval iter env) (BlkOn prog w A elt target ifs scope cl env Q) E s)
    (hs : ∀ x, foldedSetIterable iter env x = pure x := by intro _; rfl) :
    wpAny (model prog w) A (eval (.ListComp elt [⟨target, iter, ifs, 0⟩] scope pos) env) Q E s := by
  rw [eval_ListComp]
  refine wpAny_comprehension_free (use := none) rfl hs hclos hkind hnames (wpAny_mono h (fun xv s₁ h₁ => ?_) fun _ _ e => e)
  obtain ⟨o, d, n, Pv, J, hgb, rfl, rfl, hn, hit, hj, hlen, turn, done⟩ := h₁
  refine hit s₁ _ _ (fun _ _ e => e) fun ob fp St W hfree hfp hlive hgo st0 => ?_
  generalize hI : s₁.heap.objs.size = I at *
  generalize hH1 : s₁.heap.push ob = H1 at *
  have hH1s : H1.objs.size = I + 1 := by rw [← hH1, Heap.size_push, hI]
  refine wpAny_newObj_type (wpAny_newFunctionEnv hcell (by intro y hy; simp at hy) (fun h₁ hns₁ hsb₁ => ?_) hkind)
  dsimp only at hns₁ hsb₁ ⊢
  generalize hH2 : H1.push { cls := .type "list", dict := none, data := .seq ([] : List Value).toArray } = H2 at hns₁ hsb₁ ⊢
  have hC : H2.objs.size = I + 2 := by rw [← hH2, Heap.size_push, hH1s]
  generalize hCg : H2.objs.size = C at *
  rw [hH1s]
  have below : ∀ b : Nat, b < I + 2 → b ≠ C := fun b hb e => by rw [e, hC] at hb; omega
  have hsI : s₁.heap.objs.size < I + 2 := by rw [hI]; omega
  have hsH : H1.objs.size < I + 2 := by rw [hH1s]; omega
  have old2 : ∀ b o, H1.get? b = some o → h₁.get? b = some o := fun b o e => hsb₁.extBut b o (below b (Nat.lt_trans (Heap.lt_size e) hsH)) (Heap.get?_push_of_some _ (hH2 ▸ Heap.get?_push_of_some _ e))
  have old1 : ∀ b o, s₁.heap.get? b = some o → H1.get? b = some o := fun b o e => hH1 ▸ Heap.get?_push_of_some _ e
  have old : ∀ b o, s₁.heap.get? b = some o → h₁.get? b = some o := fun b o e => old2 b o (old1 b o e)
  have hacc : h₁.get? (I + 1) = some (lst []) := hsb₁.extBut _ _ (below _ (by omega)) (Heap.get?_push_of_some _ (by rw [← hH2, ← hH1s]; exact Heap.get?_push_size _ rfl))
  have fresh : ∀ a, I ≤ a → s₁.heap.get? a = none := fun a ha => by
    cases e : s₁.heap.get? a with
    | none => rfl
    | some o' => have : (a : Nat) < s₁.heap.objs.size := Heap.lt_size e; have ha' : (I : Nat) ≤ a := ha; omega
  have hCn : C = I + 2 := hC
  have start : Sat s₁.heap C _ [(I + 1, lst [])] s₁.os s₁.drawn { s₁ with heap := h₁, toks := s₁.toks + ([] : List (Str × Value)).length } :=
    ⟨⟨hns₁, old, by omega⟩, fun p hp => by
      rw [List.mem_singleton.mp hp]
      exact ⟨hacc, (by omega : I + 1 ≠ C), fresh _ (by omega)⟩, by simp, hgb, rfl, rfl⟩
  have hIlive : h₁.get? I = some ob := old2 _ _ (by rw [← hH1, ← hI]; exact Heap.get?_push_size _ hfree)
  have loop : ∀ s₃ : Shared, s₃ = { s₁ with heap := h₁, toks := s₁.toks + ([] : List (Str × Value)).length } →
      codeAny (model prog w) A (.compLoop (.ListComp elt [⟨target, iter, ifs, 0⟩] scope pos) 0 (.ref I) (.ref (I + 1)) (compEnvC scope cl C env))
        (compPost (model prog w) A E none Q (.ref (I + 1)) C) s₃ := by
    rintro s₃ rfl
    refine codeAny_loop rfl
      (fun k s' => ∃ i ys m' news, i ≤ n ∧ k = n + 1 - i ∧ St i s'.heap ∧ Sat s₁.heap C m' ((I + 1, lst ys) :: news) s₁.os s₁.drawn s' ∧ (∀ p ∈ news, p.1 ≠ I) ∧ J i ys news) ?_ (n + 1)
      ⟨0, [], _, [], Nat.zero_le _, rfl, W.frame _ _ _ st0 fun b hb ob e => old2 b ob e, start, by simp, hj⟩
    rintro k s' ⟨i, ys, m', news, hi, rfl, hst', S', hoff', hJ⟩
    show wpAny _ A ((compTurn (.ListComp elt [⟨target, iter, ifs, 0⟩] scope pos) 0 (.ref I) (.ref (I + 1)) (compEnvC scope cl C env)).onRaise (fun x => do noteFrame x (compEnvC scope cl C env); theTreesLotGoes x)) _ _ s'
    refine wpAny_noted ?_
    rw [compTurn_list]
    refine wpAny_bind (wpAny_standAt (wpAny_bind ?_))
    have keepS : ∀ (h' : Heap) (tk : Nat), (∀ b o, b ∉ [I] → s'.heap.get? b = some o → h'.get? b = some o) → Sat s₁.heap C m' ((I + 1, lst ys) :: news) s₁.os s₁.drawn { s' with heap := h', toks := tk } := fun h' tk hk =>
      ⟨⟨S'.fr.ns.at' fun o e => hk _ o (fun h => by have := List.mem_singleton.mp h; omega) e, fun b o e => hk b o (fun h => by rw [List.mem_singleton.mp h, fresh I (Nat.le_refl _)] at e; cases e) (S'.fr.keep b o e), S'.fr.above⟩,
        fun p hp => ⟨hk _ _ (fun h => by
          rcases List.mem_cons.mp hp with rfl | hp
          · have h' : I + 1 = I := List.mem_singleton.mp h
            omega
          · exact hoff' p hp (List.mem_singleton.mp h)) (S'.nw p hp).1, (S'.nw p hp).2⟩, S'.nd, S'.gb, S'.os, S'.dr⟩
    by_cases hlt : i < n
    · refine W.item i s' _ _ hlt hst' fun v h' tk hP hst₁ hk => ?_
      have S₁ := keepS h' tk hk
      obtain ⟨oI, hoI⟩ := hlive _ _ hst₁
      have S₁' : Sat s₁.heap C m' ((I, oI) :: (I + 1, lst ys) :: news) s₁.os s₁.drawn { s' with heap := h', toks := tk } :=
        ⟨S₁.fr, fun p hp => (List.mem_cons.mp hp).elim (fun e => by subst e; exact ⟨hoI, (by omega : I ≠ C), fresh _ (Nat.le_refl _)⟩) (S₁.nw p), by
          rw [List.map_cons, List.nodup_cons]
          refine ⟨fun h => ?_, S₁.nd⟩
          obtain ⟨p, hp, e⟩ := List.mem_map.mp h
          rcases List.mem_cons.mp hp with rfl | hp
          · have e' : I + 1 = I := e
            omega
          · exact hoff' p hp e, S₁.gb, S₁.os, S₁.dr⟩
      refine wpAny_bind (hgo _ _ _ _ _ hst₁ (wpAny_bind ?_))
      -- the turn's end
      have fin : ∀ (s₆ : Shared) (ys' : List Value) (M₁ : List (Addr × Obj)) (m₂ : Str → Option Value), Sat s₁.heap C m₂ ((I, oI) :: (I + 1, lst ys') :: M₁) s₁.os s₁.drawn s₆ → J (i + 1) ys' M₁ →
          ∃ k', k' < n + 1 - i ∧ ∃ i' ys m' news, i' ≤ n ∧ k' = n + 1 - i' ∧ St i' s₆.heap ∧ Sat s₁.heap C m' ((I + 1, lst ys) :: news) s₁.os s₁.drawn s₆ ∧ (∀ p ∈ news, p.1 ≠ I) ∧ J i' ys news := by
        intro s₆ ys' M₁ m₂ S₆ hJ₆
        have S₆d : Sat s₁.heap C m₂ ((I + 1, lst ys') :: M₁) s₁.os s₁.drawn s₆ := S₆.sub (fun p hp => .tail _ hp) (List.nodup_cons.mp (by have h := S₆.nd; rwa [List.map_cons] at h)).2
        refine ⟨n + 1 - (i + 1), by omega, i + 1, ys', m₂, M₁, hlt, rfl, ?_, S₆d, fun p hp => ?_, hJ₆⟩
        · refine W.frame _ _ _ hst₁ fun b hb ob e => ?_
          rcases hfp _ hb with h | ⟨ob', h⟩
          · rw [h] at e ⊢
            rw [show ob = oI from Option.some.inj (e.symm.trans hoI)]
            exact (S₆.nw (I, oI) (.head _)).1
          · rw [show ob = ob' from Option.some.inj (e.symm.trans (S₁'.fr.keep _ _ h))]
            exact S₆.fr.keep _ _ h
        · exact S₆.off (pre := []) p (.tail _ hp)
      refine wpAny_mono (turn i v ys m' news I oI (I + 1) C _ hlt hP hJ S₁') (fun _ s₃ h₃ => wpAny_bind (wpAny_mono h₃ (fun ok s₄ h₄ => ?_) fun _ _ f => f.elim)) fun _ _ f => f.elim
      cases ok with
      | false =>
        rw [if_neg Bool.false_ne_true] at h₄
        obtain ⟨m₂, pre, news₂, S₅, hJ₅⟩ := h₄
        have S₅' : Sat s₁.heap C m₂ ((I, oI) :: (I + 1, lst ys) :: (pre ++ news₂)) s₁.os s₁.drawn s₄ := S₅.perm (by
          refine List.Perm.symm ?_
          exact (List.perm_middle).trans ((List.perm_middle).cons _))
        exact wpAny_pure ⟨rfl, fin _ _ _ _ S₅' hJ₅⟩
      | true =>
        rw [if_pos rfl] at h₄
        refine wpAny_bind (wpAny_bind (wpAny_mono h₄ (fun y s₅ h₅ => wpAny_bind ?_) fun _ _ f => f.elim))
        obtain ⟨m₂, pre, news₂, S₅, hJ₅⟩ := h₅
        have S₅' : Sat s₁.heap C m₂ ((I + 1, lst ys) :: (I, oI) :: (pre ++ news₂)) s₁.os s₁.drawn s₅ := S₅.perm (by
          refine List.Perm.symm ?_
          exact (List.perm_middle).trans (((List.perm_middle).cons _).trans (List.Perm.swap ..)))
        have hyl : ys.length ≤ i := hlen _ _ _ hJ
        refine app_at S₅' (.head _) (by omega) fun s₆ S₆ => ?_
        rw [chg_cons, chg_skip _ _ _ _ (show I ≠ I + 1 by omega)] at S₆
        have hch : chg (pre ++ news₂) (I + 1) (lst (ys ++ [y])) = pre ++ news₂ := by
          unfold chg
          conv => rhs; rw [← List.map_id (pre ++ news₂)]
          refine List.map_congr_left fun p hp => ?_
          have := S₅'.off (pre := []) p (.tail _ hp)
          simp [this]
        rw [hch] at S₆
        exact wpAny_pure (wpAny_pure ⟨rfl, fin _ _ _ _ (S₆.perm (List.Perm.swap ..)) hJ₅⟩)
    · have hin : i = n := by omega
      subst hin
      refine W.done s' _ _ hst' fun h' tk hk => ?_
      have S₁ := keepS h' tk hk
      refine wpAny_pure ⟨m', S₁.fr.ns, fun h'' hs'' => ?_⟩
      refine done _ _ _ _ hJ ⟨fun b o e => (hs''.2 _ (below b (Nat.lt_trans (Heap.lt_size e) hsI))).trans (S₁.fr.keep b o e), fun p hp => ⟨(hs''.2 _ (S₁.nw p hp).2.1).trans (S₁.nw p hp).1, (S₁.nw p hp).2.2⟩, S₁.nd, S₁.gb, S₁.os, S₁.dr⟩
  refine codeAny_compStart_list (loop _ rfl) (W.self 0 _ _ _ ?_ (loop _ rfl))
  exact W.frame _ _ _ st0 fun b hb ob e => old2 b ob e
end

end
section
open PySem.Spec PySem.Calls
open PyProof.Rows.LCg (lst lst_snoc)
/-- room for b more calls -/
structure Room (A : Around) (b : Nat) : Prop where
  hh : A.handled = none
  dep : A.depth + 20 * b < recursionLimit
  uni : A.units + 100 * b < cLine
theorem Room.deeper {A : Around} {b : Nat} (R : Room A (b + 1)) (env : Env) : Room (A.deeper env) b := by
  refine ⟨R.hh, ?_, ?_⟩
  · show A.depth + 1 + 20 * b < _; have := R.dep; omega
  · show A.units + 3 + 100 * b < _; have := R.uni; omega
theorem Room.in1 {A : Around} {b : Nat} (R : Room A (b + 1)) : Room A.in1 b := by
  refine ⟨R.hh, ?_, ?_⟩
  · show A.depth + 20 * b < _; have := R.dep; omega
  · show A.units + 1 + 100 * b < _; have := R.uni; omega
theorem Room.less {A : Around} {b c : Nat} (R : Room A b) (h : c ≤ b) : Room A c := ⟨R.hh, by have := R.dep; omega, by have := R.uni; omega⟩
/-- a call's own answer, told by the heap ahead and the heap behind -/
noncomputable def Meet (w : World) (b : Nat) (f : Addr) (args : List Value) (pre : Heap → Prop) (post : Value → Shared → Shared → Prop) : Prop :=
  ∀ (A : Around) (s : Shared) (mean : ExcName → Option Value) (mg mb : Str → Option Value) (Q E : Value → Shared → Prop), Room A b → Gl w mean mg mb s.heap → AllBare s.gens → pre s.heap →
    (∀ v s', post v s s' → Q v s') → wpAny (model PySem.Challenge.rw_xo0031_01.row.prog w) A (call (.ref f) args) Q E s

/-- a pair of numbers -/
noncomputable def IsPr (h : Heap) (v : Value) (p : Int × Int) : Prop := ∃ (T : Addr) (ta tb : Tok), v = .ref T ∧ h.IsTuple T #[.int p.1 ta, .int p.2 tb]
structure Prs (h : Heap) (vs : List Value) (l : List (Int × Int)) : Prop where
  len : vs.length = l.length
  nth : ∀ (i : Nat) (v : Value), vs[i]? = some v → ∃ p : Int × Int, l[i]? = some p ∧ IsPr h v p
theorem IsPr.keeps {h h' : Heap} {v : Value} {p : Int × Int} (x : IsPr h v p) (k : ∀ b o, h.get? b = some o → h'.get? b = some o) : IsPr h' v p := by
  obtain ⟨T, ta, tb, e, o, ho, r⟩ := x
  exact ⟨T, ta, tb, e, o, k _ _ ho, r⟩
theorem Prs.keeps {h h' : Heap} {vs : List Value} {l : List (Int × Int)} (x : Prs h vs l) (k : ∀ b o, h.get? b = some o → h'.get? b = some o) : Prs h' vs l :=
  ⟨x.len, fun i v e => let ⟨p, hp, r⟩ := x.nth i v e; ⟨p, hp, r.keeps k⟩⟩
theorem Prs.nil {h : Heap} : Prs h [] [] := ⟨rfl, fun i v e => by simp at e⟩
theorem Prs.snoc {h : Heap} {vs : List Value} {l : List (Int × Int)} {v : Value} {p : Int × Int} (x : Prs h vs l) (y : IsPr h v p) : Prs h (vs ++ [v]) (l ++ [p]) := by
  refine ⟨by simp [x.len], fun i u e => ?_⟩
  by_cases hi : i < vs.length
  · rw [List.getElem?_append_left hi] at e
    obtain ⟨q, hq, r⟩ := x.nth i u e
    exact ⟨q, by rw [List.getElem?_append_left (x.len ▸ hi)]; exact hq, r⟩
  · have hi' : i < (vs ++ [v]).length := by
      rcases Nat.lt_or_ge i (vs ++ [v]).length with h' | h'
      · exact h'
      · rw [List.getElem?_eq_none h'] at e; cases e
    have : i = vs.length := by simp at hi'; omega
    subst this
    refine ⟨p, by rw [x.len]; simp, ?_⟩
    have : v = u := by simpa using e
    exact this ▸ y

section
variable {prog : Program} {w : World} {A : Around} {E : Value → Shared → Prop} {s s' : Shared} {env : Env} {h₀ : Heap} {L : Addr} {m : Str → Option Value} {M N : List (Addr × Obj)} {o : OsState} {d : Drawn}

theorem Sat.kept (S : Sat h₀ L m M o d s) {h' : Heap} {tk : Nat} (k : ∀ b o, s.heap.get? b = some o → h'.get? b = some o) : Sat h₀ L m M o d { s with heap := h', toks := tk } :=
  S.ext ⟨k, S.gb, rfl, rfl⟩
theorem Sat.newly (S : Sat h₀ L m M o d s) (ob : Obj) (hf : ob.isFreed = false) : Grow s { s with heap := s.heap.push ob } [(s.heap.objs.size, ob)] :=
  ⟨fun b o e => Heap.get?_push_of_some _ e, fun p hp => by
    rw [List.mem_singleton.mp hp]
    exact ⟨Heap.get?_push_size _ hf, by cases e : s.heap.get? s.heap.objs.size with | none => rfl | some o' => exact absurd (Heap.lt_size e) (Nat.lt_irrefl _)⟩, by simp, S.gb, rfl, rfl⟩

theorem r_min2 {a b : Int} {t u : Tok} {Q : Value → Shared → Prop} (hh : A.handled = none) (S : Sat h₀ L m M o d s) (k : ∀ t s', Sat h₀ L m M o d s' → Q (.int (min a b) t) s') :
    wpAny (model prog w) A (call (.builtin "min") [.int a t, .int b u]) Q E s := by
  refine min_two_ints hh fun h' tk hk => ?_
  by_cases h : b < a
  · rw [if_pos h]; have := k u _ (S.kept (tk := tk) hk); rwa [show min a b = b by omega] at this
  · rw [if_neg h]; have := k t _ (S.kept (tk := tk) hk); rwa [show min a b = a by omega] at this
theorem r_max2 {a b : Int} {t u : Tok} {Q : Value → Shared → Prop} (hh : A.handled = none) (S : Sat h₀ L m M o d s) (k : ∀ t s', Sat h₀ L m M o d s' → Q (.int (max a b) t) s') :
    wpAny (model prog w) A (call (.builtin "max") [.int a t, .int b u]) Q E s := by
  refine max_two_ints hh fun h' tk hk => ?_
  by_cases h : b > a
  · rw [if_pos h]; have := k u _ (S.kept (tk := tk) hk); rwa [show max a b = b by omega] at this
  · rw [if_neg h]; have := k t _ (S.kept (tk := tk) hk); rwa [show max a b = a by omega] at this
theorem r_sumL {l : Addr} {vs : List Value} {ns : List Int} {Q : Value → Shared → Prop} (hh : A.handled = none) (S : Sat h₀ L m M o d s) (hl : s.heap.IsList l vs.toArray) (hi : IntsAre vs ns) (k : ∀ t s', Sat h₀ L m M o d s' → Q (.int ns.sum t) s') :
    wpAny (model prog w) A (call (.builtin "sum") [.ref l]) Q E s :=
  PyProof.Rows.LSm.sum_ints S.fr S.nw hh hl hi fun h' tk t' F' N' => k _ _ ⟨F', N', S.nd, S.gb, S.os, S.dr⟩

theorem r_tup {elts : List Expr} {x1 : Nat} {pos : Pos} {Q : Value → Shared → Prop}
    (h : wpAny (model prog w) A (spliced (backTo pos (starEach elts env))) (fun vs s₁ => vs.length ≤ 1000000 ∧ ∃ h₀ L m M o d, Sat h₀ L m M o d s₁ ∧ ∀ T s', Grow s₁ s' [(T, { cls := .type "tuple", data := .seq vs.toArray })] → Q (.ref T) s') E s) :
    wpAny (model prog w) A (eval (.Tuple elts x1 pos) env) Q E s := by
  refine wpAny_Tuple_spliced (wpAny_mono h (fun vs s₁ h₁ => ?_) fun _ _ e => e)
  obtain ⟨hv, h₀, L, m, M, o, d, S, k⟩ := h₁
  exact ⟨by rw [sizeLine_eq]; omega, k _ _ (S.newly _ rfl)⟩
theorem r_lstE {elts : List Expr} {pos : Pos} {Q : Value → Shared → Prop}
    (h : wpAny (model prog w) A (spliced (backTo pos (starEach elts env))) (fun vs s₁ => vs.length ≤ 1000000 ∧ ∃ h₀ L m M o d, Sat h₀ L m M o d s₁ ∧ ∀ T s', Grow s₁ s' [(T, { cls := .type "list", data := .seq vs.toArray })] → Q (.ref T) s') E s) :
    wpAny (model prog w) A (eval (.List elts pos) env) Q E s := by
  refine wpAny_List_spliced (wpAny_mono h (fun vs s₁ h₁ => ?_) fun _ _ e => e)
  obtain ⟨hv, h₀, L, m, M, o, d, S, k⟩ := h₁
  exact ⟨by rw [sizeLine_eq]; omega, k _ _ (S.newly _ rfl)⟩
theorem spl_two {b₁ b₂ : Bool} {t₁ t₂ : Sem Value} {Q : List Value → Shared → Prop} (h : wpAny (model prog w) A t₁ (fun v s₁ => wpAny (model prog w) A t₂ (fun u s₂ => Q [v, u] s₂) E s₁) E s) (e₁ : b₁ = false) (e₂ : b₂ = false) :
    wpAny (model prog w) A (spliced [(b₁, t₁), (b₂, t₂)]) Q E s := by
  subst e₁ e₂
  exact spliced_cons (wpAny_mono h (fun v s₁ h₁ => spliced_cons (wpAny_mono h₁ (fun u s₂ h₂ => spliced_nil h₂) fun _ _ e => e)) fun _ _ e => e)

/-- a cell's name -/
theorem r_cel {x : Str} {pos : Pos} {c : Addr} {v : Value} {Q : Value → Shared → Prop} (hc : s.heap.IsCell c (some v)) (k : Q v s) (hx : env.kindOf x = some .cell) (hcl : env.cells.lookup x = some c)
    (hk : env.scope.kind = .function) (hd : (x == ("__debug__" : Str)) = false) : wpAny (model prog w) A (eval (.Name x pos) env) Q E s := wpAny_Name (wpAny_loadName_cell hk hx hcl hc k) hd
theorem r_fre {x : Str} {pos : Pos} {c : Addr} {v : Value} {Q : Value → Shared → Prop} (hc : s.heap.IsCell c (some v)) (k : Q v s) (hx : env.kindOf x = some .free) (hcl : env.cells.lookup x = some c)
    (hk : env.scope.kind = .function) (hd : (x == ("__debug__" : Str)) = false) (hn : (x == ("__classdict__" : Str)) = false := by decide) : wpAny (model prog w) A (eval (.Name x pos) env) Q E s := wpAny_Name (wpAny_loadName_free hk hx hcl hc k hn) hd

theorem chg_cellM {c : Addr} {ob : Obj} {v₀ : Option Value} {v : Value} {x : Str} {Q : Unit → Shared → Prop} (S : Sat h₀ L m M o d s) (hm : (c, ob) ∈ M) (hd : ob.data = .cell v₀)
    (hk : env.scope.kind = .function) (hl : env.kindOf x = some .cell) (hc : env.cells.lookup x = some c)
    (k : ∀ ob' s', ob'.data = .cell (some v) → Sat h₀ L m (chg M c ob') o d s' → Q () s') : wpAny (model prog w) A (storeName env x v) Q E s := by
  refine wpAny_storeName_cell hk hl hc ⟨ob, S.at hm, hd⟩ fun h' hc' hs => ?_
  obtain ⟨ob', ho', hd'⟩ := hc'
  exact k ob' _ hd' (S.chg hm hs ho' s.toks)

/-- the cells of a new frame, as a ledger -/
theorem cells_ledger {cm : Str → Option Value} {h : Heap} : ∀ (cs : List (Str × Addr)), (∀ n c, (n, c) ∈ cs → h.IsCell c (cm n)) → ∃ cells : List (Addr × Obj), cells.map (·.1) = cs.map (·.2) ∧ (∀ p ∈ cells, h.get? p.1 = some p.2) ∧ CellsAre cm cs cells
  | [], _ => ⟨[], rfl, (fun _ h => absurd h (by simp)), CellsAre.nil⟩
  | (n, c) :: cs, hx => by
    obtain ⟨cells, e, k, X⟩ := cells_ledger cs fun n' c' hm => hx n' c' (.tail _ hm)
    obtain ⟨o, ho, hd⟩ := hx n c (.head _)
    refine ⟨(c, o) :: cells, by rw [List.map_cons, List.map_cons, e], fun p hp => ?_, CellsAre.cons hd X⟩
    rcases List.mem_cons.mp hp with rfl | hp
    · exact ho
    · exact k p hp

theorem r_callC {f : Addr} {fo : Obj} {fd : FuncData} {args : List Value} {binds : List (Str × Value)} {body : List Stmt} {Q : Value → Shared → Prop}
    (hd : A.depth < recursionLimit) (ho : s.heap.get? f = some fo) (hfo : fo.data = .func fd) (hb : fd.body = .stmts body) (hcd : s.heap.CodeRec fd.code fd.qualname) (hlim : s.heap.NoLimit)
    (hbind : bindArgs fd ⟨args, []⟩ = pure binds) (hcl : fd.closure = [])
    (hkind : ∀ x ∈ binds, fd.scope.names.lookup x.1 = some .local ∨ (fd.scope.names.lookup x.1 = some .cell ∧ ((cellsFrom (s.heap.objs.size + 1) fd.scope.names []).lookup x.1).isSome = true)) (g : AllBare s.gens)
    (hnd : ((cellsFrom (s.heap.objs.size + 1) fd.scope.names []).map (·.1)).Nodup)
    (hco : fd.scope.isCoroutine = false) (hgen : fd.scope.isGenerator = false) (hk : fd.scope.kind = .function)
    (k : ∀ cells s', CellsAre (bindC (fun n => fd.scope.names.lookup n) binds fun _ => none) (cellsFrom (s.heap.objs.size + 1) fd.scope.names []) cells →
      Sat s.heap s.heap.objs.size (bindL (fun n => fd.scope.names.lookup n) binds fun _ => none) cells s.os s.drawn s' →
      wpAny (model prog w) (A.deeper (newEnv fd.scope s.heap.objs.size fd.globals (cellsFrom (s.heap.objs.size + 1) fd.scope.names []) (fd.qualname ++ ".<locals>.") (some f) fd.code none fd.builtins)) (execs body (newEnv fd.scope s.heap.objs.size fd.globals (cellsFrom (s.heap.objs.size + 1) fd.scope.names []) (fd.qualname ++ ".<locals>.") (some f) fd.code none fd.builtins))
        (fun fl s'' => Q (match fl with | .ret v => v | _ => .none) s'') F0 s') :
    wpAny (model prog w) A (call (.ref f) args) Q E s := by
  refine wpAny_call (codeAny_call_function hd ho hfo hco hgen hb hcd ?_)
  rw [hbind, hcl]
  refine wpAny_pure (wpAny_newFunctionEnv_cells hk hkind fun env he s' X => ?_)
  subst he
  have hlt : ∀ n c, (n, c) ∈ cellsFrom (s.heap.objs.size + 1) fd.scope.names [] → s.heap.objs.size < c := X.above
  obtain ⟨cells, e1, e2, CA⟩ := cells_ledger (h := s'.heap) (cellsFrom (s.heap.objs.size + 1) fd.scope.names []) fun n c hm => X.cell n c (lookup_of_mem_nodup hnd hm)
  have hcells : ∀ p ∈ cells, s.heap.objs.size < p.1 := fun p hp => by
    have h := List.mem_map_of_mem (f := fun p : Addr × Obj => p.1) hp
    rw [e1] at h
    obtain ⟨q, hq, e⟩ := List.mem_map.mp h
    exact e ▸ hlt q.1 q.2 hq
  obtain ⟨h₁, tk, rfl⟩ := X.toInCall.same
  have S' : Sat s.heap s.heap.objs.size (bindL (fun n => fd.scope.names.lookup n) binds fun _ => none) cells s.os s.drawn { s with heap := h₁, toks := tk } :=
    ⟨⟨X.toInCall.ns, X.toInCall.keep, Nat.le_refl _⟩, fun p hp => ⟨e2 p hp, Nat.ne_of_gt (hcells p hp), Heap.get?_none_of_le (Nat.le_of_lt (hcells p hp))⟩, by
      rw [e1]
      unfold List.Nodup
      rw [List.pairwise_map]
      exact X.apart, g, rfl, rfl⟩
  refine ⟨hlim.keeps X.toInCall.keep, codeAny_func (wpAny_mono (k _ _ CA S') (fun _ _ h => h) fun _ _ h => h.elim)⟩
end
section
variable {prog : Program} {w : World} {A : Around} {E : Value → Shared → Prop} {s s' : Shared} {env : Env} {h₀ : Heap} {L : Addr} {m : Str → Option Value} {M N : List (Addr × Obj)} {o : OsState} {d : Drawn} {mean : ExcName → Option Value} {mg mb : Str → Option Value}
theorem r_bltFS {id : String} {pos : Pos} {Q : Value → Shared → Prop} (S : Sat h₀ L m M o d s) (G : Gl w mean mg mb h₀) (e : nsIn (hd.heap_1 w.params) mainGlobals (Str.ofString id) = some none) (hb : bootBuiltins (Str.ofString id) = some (.builtin id)) (k : Q (.builtin id) s)
    (hn : Str.ofString id ≠ "__name__") (hk : env.scope.kind = .function) (hx : env.kindOf (Str.ofString id) = some .globalImplicit) (hg : env.globals = mainGlobals) (hbb : env.builtins = builtinsNs) (hd : (Str.ofString id == ("__debug__" : Str)) = false) :
    wpAny (model prog w) A (eval (.Name (Str.ofString id) pos) env) Q E s := r_blt G S e hb k hn hk hx hg hbb hd
theorem r_bltTS {id : String} {pos : Pos} {Q : Value → Shared → Prop} (S : Sat h₀ L m M o d s) (G : Gl w mean mg mb h₀) (e : nsIn (hd.heap_1 w.params) mainGlobals (Str.ofString id) = some none) (hb : bootBuiltins (Str.ofString id) = some (.type id)) (k : Q (.type id) s)
    (hn : Str.ofString id ≠ "__name__") (hk : env.scope.kind = .function) (hx : env.kindOf (Str.ofString id) = some .globalImplicit) (hg : env.globals = mainGlobals) (hbb : env.builtins = builtinsNs) (hd : (Str.ofString id == ("__debug__" : Str)) = false) :
    wpAny (model prog w) A (eval (.Name (Str.ofString id) pos) env) Q E s := r_blt G S e hb k hn hk hx hg hbb hd
theorem r_globS {x : Str} {pos : Pos} {v : Value} {Q : Value → Shared → Prop} (S : Sat h₀ L m M o d s) (G : Gl w mean mg mb h₀) (e : nsIn (hd.heap_1 w.params) mainGlobals x = some (some v)) (k : Q v s)
    (hk : env.scope.kind = .function) (hx : env.kindOf x = some .globalImplicit) (hg : env.globals = mainGlobals) (hd : (x == ("__debug__" : Str)) = false) :
    wpAny (model prog w) A (eval (.Name x pos) env) Q E s := r_glob G S e k hk hx hg hd
theorem r_callKS {pos : Pos} {f : Value} {e : Expr} {rest : List Expr} {Q : Value → Shared → Prop} (G : Gl w mean mg mb h₀) (hk : keepIn (hd.heap_1 w.params) f = true)
    (h : wpAny (model prog w) A (spliced (backTo pos (starEach (e :: rest) env))) (fun vs s₁ => (∃ L m M o d, Sat h₀ L m M o d s₁) ∧ wpAny (model prog w) A (call f vs) Q E s₁) E s)
    (he : starEach (e :: rest) env = (false, eval e env) :: starEach rest env := by rfl) (hplain : (backTo pos (starEach rest env)).any (·.1) = false := by rfl) :
    wpAny (model prog w) A (callWith pos f [] (backTo pos (starEach (e :: rest) env)) []) Q E s :=
  callWith_K G.kin hk (wpAny_mono h (fun vs s₁ h => ⟨by obtain ⟨⟨L, m, M, o, d, S⟩, _⟩ := h; exact (G.at S).kin, h.2⟩) fun _ _ h => h) he hplain
theorem r_celS {x : Str} {pos : Pos} {c : Addr} {v : Value} {Q : Value → Shared → Prop} (hcl : env.cells.lookup x = some c) (S : Sat h₀ L m M o d s) (hc : h₀.IsCell c (some v)) (k : Q v s) (hx : env.kindOf x = some .cell)
    (hk : env.scope.kind = .function) (hd : (x == ("__debug__" : Str)) = false) : wpAny (model prog w) A (eval (.Name x pos) env) Q E s := r_cel (hc.keeps S.fr.keep) k hx hcl hk hd
theorem r_celM {x : Str} {pos : Pos} {c : Addr} {v : Value} {ob : Obj} {Q : Value → Shared → Prop} (hcl : env.cells.lookup x = some c) (S : Sat h₀ L m M o d s) (hm : (c, ob) ∈ M) (hd : ob.data = .cell (some v)) (k : Q v s) (hx : env.kindOf x = some .cell)
    (hk : env.scope.kind = .function) (hdb : (x == ("__debug__" : Str)) = false) : wpAny (model prog w) A (eval (.Name x pos) env) Q E s := r_cel ⟨ob, S.at hm, hd⟩ k hx hcl hk hdb
end

section
variable {prog : Program} {w : World} {A : Around} {E : Value → Shared → Prop} {s s' : Shared} {b : Nat}
theorem r_callA {f : Addr} {fo : Obj} {fd : FuncData} {args : List Value} {binds : List (Str × Value)} {body : List Stmt} {Q : Value → Shared → Prop}
    (R : Room A (b + 1)) (ho : s.heap.get? f = some fo) (hfo : fo.data = .func fd) (hb : fd.body = .stmts body) (hcd : s.heap.CodeRec fd.code fd.qualname) (hlim : s.heap.NoLimit)
    (hbind : bindArgs fd ⟨args, []⟩ = pure binds) (hc : ∀ x ∈ fd.scope.names, x.2 ≠ .cell) (hl : ∀ x ∈ binds, fd.scope.names.lookup x.1 = some .local) (g : AllBare s.gens)
    (hco : fd.scope.isCoroutine = false) (hgen : fd.scope.isGenerator = false) (hk : fd.scope.kind = .function)
    (k : ∀ A1 s', Room A1 b → Sat s.heap s.heap.objs.size (fun x => binds.reverse.lookup x) [] s.os s.drawn s' →
      wpAny (model prog w) A1 (execs body (newEnv fd.scope s.heap.objs.size fd.globals fd.closure (fd.qualname ++ ".<locals>.") (some f) fd.code none fd.builtins))
        (fun fl s'' => Q (match fl with | .ret v => v | _ => .none) s'') F0 s') :
    wpAny (model prog w) A (call (.ref f) args) Q E s :=
  r_call (by have := R.dep; omega) ho hfo hb hcd hlim hbind hc hl g hco hgen hk fun s' S => k _ s' (R.deeper _) S
theorem r_callCA {f : Addr} {fo : Obj} {fd : FuncData} {args : List Value} {binds : List (Str × Value)} {body : List Stmt} {Q : Value → Shared → Prop}
    (R : Room A (b + 1)) (ho : s.heap.get? f = some fo) (hfo : fo.data = .func fd) (hb : fd.body = .stmts body) (hcd : s.heap.CodeRec fd.code fd.qualname) (hlim : s.heap.NoLimit)
    (hbind : bindArgs fd ⟨args, []⟩ = pure binds) (hcl : fd.closure = [])
    (hkind : ∀ x ∈ binds, fd.scope.names.lookup x.1 = some .local ∨ (fd.scope.names.lookup x.1 = some .cell ∧ ((cellsFrom (s.heap.objs.size + 1) fd.scope.names []).lookup x.1).isSome = true)) (g : AllBare s.gens)
    (hnd : ((cellsFrom (s.heap.objs.size + 1) fd.scope.names []).map (·.1)).Nodup)
    (hco : fd.scope.isCoroutine = false) (hgen : fd.scope.isGenerator = false) (hk : fd.scope.kind = .function)
    (k : ∀ A1 cells s', Room A1 b → CellsAre (bindC (fun n => fd.scope.names.lookup n) binds fun _ => none) (cellsFrom (s.heap.objs.size + 1) fd.scope.names []) cells →
      Sat s.heap s.heap.objs.size (bindL (fun n => fd.scope.names.lookup n) binds fun _ => none) cells s.os s.drawn s' →
      wpAny (model prog w) A1 (execs body (newEnv fd.scope s.heap.objs.size fd.globals (cellsFrom (s.heap.objs.size + 1) fd.scope.names []) (fd.qualname ++ ".<locals>.") (some f) fd.code none fd.builtins))
        (fun fl s'' => Q (match fl with | .ret v => v | _ => .none) s'') F0 s') :
    wpAny (model prog w) A (call (.ref f) args) Q E s :=
  r_callC (by have := R.dep; omega) ho hfo hb hcd hlim hbind hcl hkind g hnd hco hgen hk fun cells s' CA S => k _ cells s' (R.deeper _) CA S
end
theorem ints_len : ∀ {vs : List Value} {ns : List Int}, IntsAre vs ns → vs.length = ns.length
  | _, _, .nil => rfl
  | _, _, .cons n t h => by rw [List.length_cons, List.length_cons, ints_len h]
theorem ints_snoc {vs : List Value} {ns : List Int} (h : IntsAre vs ns) (n : Int) (t : Tok) : IntsAre (vs ++ [.int n t]) (ns ++ [n]) := h.append (.cons n t .nil)
theorem ints_at : ∀ {vs : List Value} {ns : List Int}, IntsAre vs ns → ∀ {i : Nat} {v : Value}, vs[i]? = some v → ∃ n t, v = .int n t ∧ ns[i]? = some n
  | _, _, .nil, i, v, e => by simp at e
  | _, _, .cons n t h, 0, v, e => ⟨n, t, by simpa using e.symm, by simp⟩
  | _, _, .cons n t h, i + 1, v, e => by simpa using ints_at h (i := i) (v := v) (by simpa using e)
theorem take_step {α : Type} {l : List α} {i : Nat} {x : α} (h : l[i]? = some x) : l.take (i + 1) = l.take i ++ [x] := by rw [List.take_add_one, h]; rfl

end
section
open PySem.Spec PySem.Calls PySem.SeqAt
noncomputable abbrev lsN (vs : List Value) (n : Nat) : Obj := { cls := .type "list", data := .seq vs.toArray n }
noncomputable abbrev tpN (vs : List Value) : Obj := { cls := .type "tuple", data := .seq vs.toArray }
theorem tp_ne_ls {xs vs : List Value} {n : Nat} : tpN xs ≠ lsN vs n := fun e => absurd (congrArg Obj.cls e) (show Value.type "tuple" ≠ Value.type "list" by decide)
theorem ls_ne_tp {xs vs : List Value} {n : Nat} : lsN vs n ≠ tpN xs := fun e => tp_ne_ls e.symm
/-- pairs of numbers in a ledger -/
noncomputable def IsPrM (M : List (Addr × Obj)) (v : Value) (p : Int × Int) : Prop := ∃ (T : Addr) (ta tb : Tok), v = .ref T ∧ (T, tpN [.int p.1 ta, .int p.2 tb]) ∈ M
theorem IsPrM.mk {M : List (Addr × Obj)} {p : Int × Int} {T : Addr} {ta tb : Tok} (h : (T, tpN [.int p.1 ta, .int p.2 tb]) ∈ M) : IsPrM M (.ref T) p := ⟨T, ta, tb, rfl, h⟩
structure PrsM (M : List (Addr × Obj)) (vs : List Value) (l : List (Int × Int)) : Prop where
  len : vs.length = l.length
  nth : ∀ (i : Nat) (v : Value), vs[i]? = some v → ∃ p : Int × Int, l[i]? = some p ∧ IsPrM M v p
theorem IsPrM.sub {M M' : List (Addr × Obj)} {v : Value} {p : Int × Int} (x : IsPrM M v p) (h : ∀ q ∈ M, q.2.cls = .type "tuple" → q ∈ M') : IsPrM M' v p :=
  let ⟨T, ta, tb, e, hm⟩ := x; ⟨T, ta, tb, e, h _ hm rfl⟩
theorem PrsM.sub {M M' : List (Addr × Obj)} {vs : List Value} {l : List (Int × Int)} (x : PrsM M vs l) (h : ∀ q ∈ M, q.2.cls = .type "tuple" → q ∈ M') : PrsM M' vs l :=
  ⟨x.len, fun i v e => let ⟨p, hp, r⟩ := x.nth i v e; ⟨p, hp, r.sub h⟩⟩
theorem PrsM.nil {M : List (Addr × Obj)} : PrsM M [] [] := ⟨rfl, fun i v e => by simp at e⟩
theorem PrsM.snoc {M : List (Addr × Obj)} {vs : List Value} {l : List (Int × Int)} {v : Value} {p : Int × Int} (x : PrsM M vs l) (y : IsPrM M v p) : PrsM M (vs ++ [v]) (l ++ [p]) := by
  refine ⟨by simp [x.len], fun i u e => ?_⟩
  by_cases hi : i < vs.length
  · rw [List.getElem?_append_left hi] at e
    obtain ⟨q, hq, r⟩ := x.nth i u e
    exact ⟨q, by rw [List.getElem?_append_left (x.len ▸ hi)]; exact hq, r⟩
  · have hi' : i < (vs ++ [v]).length := by
      rcases Nat.lt_or_ge i (vs ++ [v]).length with h' | h'
      · exact h'
      · rw [List.getElem?_eq_none h'] at e; cases e
    have : i = vs.length := by simp at hi'; omega
    subst this
    refine ⟨p, by rw [x.len]; simp, ?_⟩
    have : v = u := by simpa using e
    exact this ▸ y
theorem getElem?_eraseIdx' {α : Type} (l : List α) (i j : Nat) : (l.eraseIdx i)[j]? = if j < i then l[j]? else l[j + 1]? := by
  rw [List.getElem?_eraseIdx]
theorem PrsM.erase {M : List (Addr × Obj)} {vs : List Value} {l : List (Int × Int)} (x : PrsM M vs l) (i : Nat) : PrsM M (vs.eraseIdx i) (l.eraseIdx i) := by
  refine ⟨by rw [List.length_eraseIdx, List.length_eraseIdx, x.len], fun j v e => ?_⟩
  rw [getElem?_eraseIdx'] at e ⊢
  by_cases h : j < i
  · rw [if_pos h] at e ⊢; exact x.nth _ _ e
  · rw [if_neg h] at e ⊢; exact x.nth _ _ e

noncomputable def pd (p : Int × Int) : PyData := .tuple [.int p.1, .int p.2]
theorem pr_reads {h : Heap} {v : Value} {p : Int × Int} (x : IsPr h v p) : Reads h v (pd p) [] := by
  obtain ⟨T, ta, tb, rfl, ob, ho, hc, n, hd⟩ := x
  exact Reads.tuple ho hc hd (.cons (.int _ _) (.cons (.int _ _) .nil))
theorem prs_reads {h : Heap} : ∀ {vs : List Value} {l : List (Int × Int)}, Prs h vs l → ReadsAll h vs (l.map pd) []
  | [], [], _ => .nil
  | [], _ :: _, x => by have := x.len; simp at this
  | _ :: _, [], x => by have := x.len; simp at this
  | v :: vs, p :: l, x => by
    obtain ⟨q, hq, r⟩ := x.nth 0 v rfl
    have : p = q := by simpa using hq
    subst this
    exact .cons (pr_reads r) (prs_reads ⟨by have := x.len; simpa using this, fun i u e => by simpa using x.nth (i + 1) u (by simpa using e)⟩)
theorem pd_lay (p : Int × Int) : (pd p).canLay0 = true := rfl
theorem pds_lay : ∀ l : List (Int × Int), PyData.canLayAll0 (l.map pd) = true
  | [] => rfl
  | p :: l => by rw [List.map_cons, PyData.canLayAll0, pd_lay, pds_lay l]; rfl
theorem pd_depth (p : Int × Int) : (pd p).depth = 1 := rfl
theorem pds_depth : ∀ l : List (Int × Int), PyData.depthAll (l.map pd) ≤ 1
  | [] => by simp [PyData.depthAll]
  | p :: l => by rw [List.map_cons, PyData.depthAll, pd_depth]; have := pds_depth l; omega
theorem pd_eqv (p q : Int × Int) : PyData.eqv (pd p) (pd q) = decide (p = q) := by
  obtain ⟨a, b⟩ := p
  obtain ⟨c, d⟩ := q
  show ((a == c) && ((b == d) && true)) = _
  rw [Bool.and_true]
  by_cases h1 : a = c <;> by_cases h2 : b = d <;> simp [h1, h2]
theorem pds_eqv : ∀ l k : List (Int × Int), PyData.eqvAll (l.map pd) (k.map pd) = decide (l = k)
  | [], [] => by simp [PyData.eqvAll]
  | [], _ :: _ => by simp [PyData.eqvAll]
  | _ :: _, [] => by simp [PyData.eqvAll]
  | p :: l, q :: k => by
    rw [List.map_cons, List.map_cons, PyData.eqvAll, pd_eqv, pds_eqv l k]
    by_cases h1 : p = q <;> by_cases h2 : l = k <;> simp [h1, h2]

section
variable {prog : Program} {w : World} {A : Around} {E : Value → Shared → Prop} {s s' : Shared} {env : Env} {h₀ : Heap} {L : Addr} {m : Str → Option Value} {M N : List (Addr × Obj)} {o : OsState} {d : Drawn}

theorem IsPrM.at {v : Value} {p : Int × Int} (x : IsPrM M v p) (S : Sat h₀ L m M o d s) : IsPr s.heap v p := let ⟨T, ta, tb, e, hm⟩ := x; ⟨T, ta, tb, e, _, S.at hm, rfl, 0, rfl⟩
theorem PrsM.at {vs : List Value} {l : List (Int × Int)} (x : PrsM M vs l) (S : Sat h₀ L m M o d s) : Prs s.heap vs l := ⟨x.len, fun i v e => let ⟨p, hp, r⟩ := x.nth i v e; ⟨p, hp, r.at S⟩⟩
/-- another list object at a: the tuples stay -/
theorem PrsM.chg {vs us : List Value} {l : List (Int × Int)} {a : Addr} {n : Nat} {ob : Obj} (x : PrsM M vs l) (S : Sat h₀ L m M o d s) (hm : (a, lsN us n) ∈ M) : PrsM (Mine.chg M a ob) vs l :=
  x.sub fun q hq hc => chg_off hq fun e => by
    obtain ⟨b, y⟩ := q
    have e' : b = a := e
    subst e'
    have := S.inj hq hm
    rw [this] at hc; exact absurd hc (show Value.type "list" ≠ Value.type "tuple" by decide)
theorem IsPrM.chg {v : Value} {us : List Value} {p : Int × Int} {a : Addr} {n : Nat} {ob : Obj} (x : IsPrM M v p) (S : Sat h₀ L m M o d s) (hm : (a, lsN us n) ∈ M) : IsPrM (Mine.chg M a ob) v p :=
  x.sub fun q hq hc => chg_off hq fun e => by
    obtain ⟨b, y⟩ := q
    have e' : b = a := e
    subst e'
    have := S.inj hq hm
    rw [this] at hc; exact absurd hc (show Value.type "list" ≠ Value.type "tuple" by decide)

theorem r_appN {l : Addr} {vs : List Value} {n : Nat} {y : Value} {Q : Value → Shared → Prop} (S : Sat h₀ L m M o d s) (hm : (l, lsN vs n) ∈ M) (hsz : vs.length ≤ 1000000)
    (k : ∀ s', Sat h₀ L m (chg M l (lsN (vs ++ [y]) (n + 1))) o d s' → Q .none s') : wpAny (model prog w) A (call (.builtin "list.append") [.ref l, y]) Q E s := by
  refine append_at (S.at hm) (fun h' hs hD => k _ (S.chg hm hs (hD.trans ?_) s.toks)) ?_
  · rw [List.push_toArray]
  · rw [List.size_toArray, sizeLine_eq]; omega

theorem r_addL {l b : Addr} {vs ws : List Value} {Q : Value → Shared → Prop} (S : Sat h₀ L m M o d s) (hl : s.heap.IsList l vs.toArray) (hb : s.heap.IsList b ws.toArray) (hsz : vs.length + ws.length ≤ 1000000)
    (k : ∀ D s', Grow s s' [(D, lsN (vs ++ ws) 0)] → Q (.ref D) s') : wpAny (model prog w) A (binaryOp .Add (.ref l) (.ref b)) Q E s := by
  obtain ⟨⟨cls, dd, data, sl⟩, ho, hc, n, hd⟩ := id hl
  obtain ⟨⟨cls2, dd2, data2, sl2⟩, ho2, hc2, n2, hd2⟩ := id hb
  simp only at hc hd hc2 hd2
  subst hc hd hc2 hd2
  have e : vs.toArray ++ ws.toArray = (vs ++ ws).toArray := by simp
  refine concat_meets ⟨_, ho, rfl⟩ ⟨_, ho2, rfl⟩ noFill_list_add seq_list_add PySem.F.slot_list_add PySem.F.entry_list_add (PySem.F.args_list_add_2 _ _) (list_addW l b vs.toArray ws.toArray n n2 dd dd2 sl sl2 (by rw [sizeLine_eq]; simp; omega)) ⟨ho, ho2, ?_⟩
  rw [e]
  exact k _ _ (S.newly _ rfl)

theorem eq_pr {A : Around} {v u : Value} {p q : Int × Int} (hu : A.units + 10 < cLine) (x : IsPr s.heap v p) (y : IsPr s.heap u q) : EqAt A s v u (decide (p = q)) := fun prog w E Q hq =>
  eqBoolOverData prog w A E s v u (pd p) (pd q) [] [] Q (pr_reads x) (pr_reads y) rfl rfl (by rw [pd_depth, pd_depth]; omega) (by rw [pd_eqv]; exact hq)

/-- the pair at a value -/
noncomputable def prOf (h : Heap) : Value → Int × Int
  | .ref a => match h.get? a with
    | some ob => match ob.data with
      | .seq xs _ => match (xs[0]? : Option Value), (xs[1]? : Option Value) with
        | some (Value.int a _), some (Value.int b _) => (a, b)
        | _, _ => (0, 0)
      | _ => (0, 0)
    | none => (0, 0)
  | _ => (0, 0)
theorem prOf_eq {h : Heap} {v : Value} {p : Int × Int} (x : IsPr h v p) : prOf h v = p := by
  obtain ⟨T, ta, tb, rfl, ob, ho, hc, n, hd⟩ := x
  simp [prOf, ho, hd]
theorem prs_map {h : Heap} {vs : List Value} {l : List (Int × Int)} (x : Prs h vs l) : vs.map (prOf h) = l := by
  refine List.ext_getElem? fun i => ?_
  rw [List.getElem?_map]
  cases e : vs[i]? with
  | none =>
    have : vs.length ≤ i := by simpa using e
    rw [x.len] at this
    simp [List.getElem?_eq_none this]
  | some v =>
    obtain ⟨p, hp, r⟩ := x.nth i v e
    rw [hp, Option.map_some, prOf_eq r]

theorem r_inPr {l : Addr} {vs : List Value} {ps : List (Int × Int)} {v : Value} {p : Int × Int} {Q : Value → Shared → Prop} (hu : A.units + 20 < cLine) (hl : s.heap.IsList l vs.toArray) (hp : Prs s.heap vs ps) (hv : IsPr s.heap v p) (k : Q (.bool (decide (p ∈ ps))) s) :
    wpAny (model prog w) A (compareOp .In v (.ref l)) Q E s := by
  refine in_listAt (fun y => decide (prOf s.heap y = p)) hl (fun y hy => ?_) ?_
  · obtain ⟨i, hi, e⟩ := List.getElem_of_mem (List.mem_toArray.mp hy)
    obtain ⟨q, hq, r⟩ := hp.nth i y (by rw [← e]; simp)
    rw [prOf_eq r]
    exact eq_pr (by show A.units + 1 + 10 < _; omega) r hv
  · have e : (vs.toArray.any fun y => decide (prOf s.heap y = p)) = decide (p ∈ ps) := by
      rw [← prs_map hp, Bool.eq_iff_iff]
      simp
    rw [e]; exact k

theorem remove_loopAt (l : Addr) (items : Array Value) (n : Nat) (x : Value) (e : Value → Bool) (j : Nat) (hj : j < items.size) (hit : e items[j] = true) (k : Nat) (hs1 : items.size ≤ sizeLine) :
    ∀ i : Nat, j - i = k → i ≤ j → (∀ m (hm : m < items.size), i ≤ m → m < j → e items[m] = false) → Meets (Builtin.«list.remove.loop» ⟨[.ref l, x, rawInt i], []⟩)
      (fun A R s => s.heap.get? l = some { cls := .type "list", dict := none, data := .seq items n, slots := #[] } ∧ (∀ y, y ∈ items → EqAt A.in1 s y x (e y)) ∧ R (.ok (.ret .none)) { s with heap := s.heap.update l (Obj.mapSeq fun xs => xs.eraseIdxIfInBounds j) }) := by
  induction k with
  | zero =>
    intro i hk hij hno prog w A R s h
    obtain ⟨hp, g, d, tk, os⟩ := s; obtain ⟨hl, he, h⟩ := h
    have hij' : i = j := by omega
    subst hij'
    wp_walk using AutoSeq1.wpAny_loadPart' hl
    have hi : items[((i : Nat) : Int).toNat]? = some items[i] := by simp [hj]
    rw [hi]
    refine wpAny_bind (he _ (Array.getElem_mem hj) prog w _ _ ?_)
    rw [hit]
    have hz' : (items.eraseIdxIfInBounds i).size ≤ sizeLine + 1 := Nat.le_trans (MeetsSeq.size_erased items _) (Nat.le_succ_of_le hs1)
    wp_walk using (wpAny_updateSeq hl rfl (hz := hs1) (_hz' := hz')), AutoSeq1.wpAny_loadPart' hl
    simpa using h
  | succ k ih =>
    intro i hk hij hno prog w A R s h
    obtain ⟨hp, g, d, tk, os⟩ := s; obtain ⟨hl, he, h⟩ := h
    have hlt : i < items.size := by omega
    wp_walk using AutoSeq1.wpAny_loadPart' hl
    have hi : items[((i : Nat) : Int).toNat]? = some items[i] := by simp [hlt]
    have hc : ((i : Int) + 1) = ((i + 1 : Nat) : Int) := by omega
    rw [hi]
    refine wpAny_bind (he _ (Array.getElem_mem hlt) prog w _ _ ?_)
    rw [hno i hlt (Nat.le_refl _) (by omega)]
    wp_walk
    rw [hc]
    exact ⟨plainId_quiet MeetsSeq.plain_remove_loop _, codeAny_builtin MeetsSeq.entry_remove_loop (by
      rw [Around.under_plainId MeetsSeq.plain_remove_loop _]
      exact ih (i + 1) (by omega) (by omega) (fun m hm h1 h2 => hno m hm (by omega) h2) prog w A R _ ⟨hl, he, h⟩)⟩
end
section
variable {prog : Program} {w : World} {A : Around} {E : Value → Shared → Prop} {s s' : Shared} {env : Env} {h₀ : Heap} {L : Addr} {m : Str → Option Value} {M N : List (Addr × Obj)} {o : OsState} {d : Drawn}
theorem list_removeAt (l : Addr) (items : Array Value) (n : Nat) (x : Value) (e : Value → Bool) (j : Nat) (hj : j < items.size) (hit : e items[j] = true) (hno : ∀ m (hm : m < items.size), m < j → e items[m] = false) (hs1 : items.size ≤ sizeLine) :
    Meets (Builtin.«list.remove» ⟨[.ref l, x], []⟩)
      (fun A R s => s.heap.get? l = some { cls := .type "list", dict := none, data := .seq items n, slots := #[] } ∧ (∀ y, y ∈ items → EqAt A.in1 s y x (e y)) ∧ R (.ok (.ret .none)) { s with heap := s.heap.update l (Obj.mapSeq fun xs => xs.eraseIdxIfInBounds j) }) := by
  intro prog w A R s h
  obtain ⟨hp, g, d, tk, os⟩ := s; obtain ⟨hl, he, h⟩ := h
  wp_walk using AutoSeq1.wpAny_loadPart' hl
  exact ⟨plainId_quiet MeetsSeq.plain_remove_loop _, codeAny_builtin MeetsSeq.entry_remove_loop (by
    rw [Around.under_plainId MeetsSeq.plain_remove_loop _]
    exact remove_loopAt l items n x e j hj hit _ hs1 0 rfl (Nat.zero_le _) (fun m hm _ h2 => hno m hm h2) prog w A R _ ⟨hl, he, h⟩)⟩

theorem r_remPr {l : Addr} {vs : List Value} {n : Nat} {ps : List (Int × Int)} {v : Value} {p : Int × Int} {Q : Value → Shared → Prop} (hu : A.units + 20 < cLine) (S : Sat h₀ L m M o d s) (hm : (l, lsN vs n) ∈ M) (hp : PrsM M vs ps) (hv : IsPrM M v p) (hin : p ∈ ps) (hsz : vs.length ≤ 1000000)
    (k : ∀ s' n', Sat h₀ L m (chg M l (lsN (vs.eraseIdx (ps.idxOf p)) n')) o d s' → Q .none s') : wpAny (model prog w) A (call (.builtin "list.remove") [.ref l, v]) Q E s := by
  have hP := hp.at S
  have hV := hv.at S
  have hj : ps.idxOf p < ps.length := List.idxOf_lt_length_of_mem hin
  have hj' : ps.idxOf p < vs.length := by rw [hP.len]; exact hj
  have nth : ∀ (i : Nat) (hi : i < vs.length), prOf s.heap vs[i] = ps[i]'(hP.len ▸ hi) := fun i hi => by
    obtain ⟨q, hq, r⟩ := hP.nth i vs[i] (by simp)
    rw [prOf_eq r]
    have : i < ps.length := hP.len ▸ hi
    rw [List.getElem?_eq_getElem this] at hq
    exact (Option.some.inj hq).symm
  refine call_meets PySem.F.slot_list_remove ⟨_, S.at hm, rfl⟩ PySem.F.entry_list_remove (PySem.F.args_list_remove_2 _ _)
    (list_removeAt l vs.toArray n v (fun y => decide (prOf s.heap y = p)) (ps.idxOf p) (by simpa using hj') ?_ ?_ (by rw [List.size_toArray, sizeLine_eq]; omega)) ⟨S.at hm, fun y hy => ?_, ?_⟩
  · have := nth _ hj'
    simp only [List.getElem_toArray, decide_eq_true_eq]
    rw [this]; exact List.getElem_idxOf hj
  · intro i hi hlt
    have hi' : i < vs.length := by simpa using hi
    have := nth i hi'
    simp only [List.getElem_toArray, decide_eq_false_iff_not]
    rw [this]
    have := List.not_of_lt_findIdx hlt; simpa using this
  · obtain ⟨i, hi, e⟩ := List.getElem_of_mem (List.mem_toArray.mp hy)
    obtain ⟨q, hq, r⟩ := hP.nth i y (by rw [← e]; simp)
    simp only [prOf_eq r]
    exact eq_pr (by show A.units + 1 + 10 < _; omega) r hV
  · have ho := S.at hm
    obtain ⟨n', hn'⟩ : ∃ n', (s.heap.update l (Obj.mapSeq fun xs => xs.eraseIdxIfInBounds (ps.idxOf p))).get? l = some (seqObj "list" (vs.toArray.eraseIdxIfInBounds (ps.idxOf p)) n') := ⟨_, get?_update_seq ho _⟩
    refine k _ n' (S.chg hm (Heap.SameBut.update ..) (hn'.trans ?_) s.toks)
    show some (seqObj "list" (vs.toArray.eraseIdxIfInBounds (ps.idxOf p)) n') = some (seqObj "list" (vs.eraseIdx (ps.idxOf p)).toArray n')
    congr 2
    simp [List.eraseIdxIfInBounds_toArray]
theorem turn_split {I : Addr} {oI : Obj} {J : List (Addr × Obj) → Prop} (S : Sat h₀ L m M o d s) (hI : (I, oI) ∈ M) (hJ : ∀ M₂, (∀ p ∈ M, p.1 ≠ I → p ∈ M₂) → J M₂) :
    ∃ m' pre post, Sat h₀ L m' (pre ++ (I, oI) :: post) o d s ∧ m' = m ∧ J (pre ++ post) := by
  obtain ⟨pre, post, e⟩ := List.append_of_mem hI
  refine ⟨m, pre, post, e ▸ S, rfl, hJ _ fun p hp hne => ?_⟩
  rw [e] at hp
  rcases List.mem_append.mp hp with h | h
  · exact List.mem_append.mpr (.inl h)
  · rcases List.mem_cons.mp h with h | h
    · exact absurd (by rw [h]) hne
    · exact List.mem_append.mpr (.inr h)
theorem PrsM.split {vs : List Value} {l : List (Int × Int)} {I : Addr} {oI : Obj} {M₂ : List (Addr × Obj)} (x : PrsM M vs l) (S : Sat h₀ L m M o d s) (hI : (I, oI) ∈ M) (hk : oI.cls ≠ .type "tuple") (h : ∀ p ∈ M, p.1 ≠ I → p ∈ M₂) : PrsM M₂ vs l :=
  x.sub fun q hq hc => h q hq fun e => by
    obtain ⟨a, y⟩ := q
    have e' : a = I := e
    subst e'
    have := S.inj hq hI
    exact hk (this ▸ hc)
end

end
section
open PySem.Spec PySem.Calls PySem.SeqAt
noncomputable def krun {α : Type} (cmp : Nat → Nat → Bool) : KasT α → α
  | .ret a => a
  | .ask i j k => krun cmp (k (cmp i j))
noncomputable def kin (n : Nat) : KasT (Array Nat) → Bool
  | .ret p => p.toList.all (· < n) && p.size == n
  | .ask i j k => decide (i < n) && decide (j < n) && kin n (k true) && kin n (k false)
noncomputable def lexLt (p q : Int × Int) : Bool := if p.1 = q.1 then decide (p.2 < q.2) else decide (p.1 < q.1)
noncomputable def sortIx (l : List (Int × Int)) : List Nat := if l.length < 2 then List.range l.length else (krun (fun i j => lexLt (l.getD i (0, 0)) (l.getD j (0, 0))) (kas_sort l.length)).toList
noncomputable def sortF (l : List (Int × Int)) : List (Int × Int) := (sortIx l).map fun i => l.getD i (0, 0)
theorem kin2 : kin 2 (kas_sort 2) = true := by decide +kernel
theorem kin3 : kin 3 (kas_sort 3) = true := by decide +kernel
theorem kin4 : kin 4 (kas_sort 4) = true := by decide +kernel

theorem krun_in {n : Nat} {cmp : Nat → Nat → Bool} : ∀ {t : KasT (Array Nat)}, kin n t = true → (krun cmp t).toList.all (· < n) = true ∧ (krun cmp t).size = n
  | .ret p, h => by simp only [kin, Bool.and_eq_true, beq_iff_eq] at h; exact h
  | .ask i j k, h => by
    simp only [kin, Bool.and_eq_true] at h
    show (krun cmp (k (cmp i j))).toList.all (· < n) = true ∧ (krun cmp (k (cmp i j))).size = n
    cases cmp i j
    · exact krun_in h.2
    · exact krun_in h.1.2

theorem kas_run_wp {n : Nat} {cmp : Nat → Nat → Bool} {ask : Nat → Nat → (Bool → Shared → Prop) → Shared → Prop} {s : Shared} {Q : Array Nat → Shared → Prop} (ha : ∀ i j C, i < n → j < n → C (cmp i j) s → ask i j C s) :
    ∀ {t : KasT (Array Nat)}, kin n t = true → Q (krun cmp t) s → t.kasWp ask Q s
  | .ret p, _, q => q
  | .ask i j k, h, q => by
    simp only [kin, Bool.and_eq_true, decide_eq_true_eq] at h
    refine ha i j _ h.1.1.1 h.1.1.2 ?_
    have q' : Q (krun cmp (k (cmp i j))) s := q
    revert q'
    cases cmp i j
    · exact fun q' => kas_run_wp ha h.2 q'
    · exact fun q' => kas_run_wp ha h.1.2 q'

section
variable {prog : Program} {w : World} {A : Around} {E : Value → Shared → Prop} {s s' : Shared} {env : Env} {h₀ : Heap} {L : Addr} {m : Str → Option Value} {M N : List (Addr × Obj)} {o : OsState} {d : Drawn}

theorem keyLt_pr {v u : Value} {p q : Int × Int} {Q : Bool → Shared → Prop} (x : IsPr s.heap v p) (y : IsPr s.heap u q) (k : Q (lexLt p q) s) : wpAny (model prog w) A (keyLt' (tuples' true) v u) Q E s := by
  obtain ⟨T, ta, tb, rfl, ob, ho, hc, n, hd⟩ := x
  obtain ⟨T', ta', tb', rfl, ob', ho', hc', n', hd'⟩ := y
  refine kat_lt ho hd ho' hd' ?_
  show KatLex prog w A true _ Q [(.int p.1 ta, .int q.1 ta'), (.int p.2 tb, .int q.2 tb')] 0 s
  refine kat_cons (wpAny_eqBool_int ?_)
  by_cases h1 : p.1 = q.1
  · rw [show (p.1 == q.1) = true by simpa using h1]
    refine kat_yes (kat_cons (wpAny_eqBool_int ?_))
    by_cases h2 : p.2 = q.2
    · rw [show (p.2 == q.2) = true by simpa using h2]
      refine kat_yes (kat_nil ?_)
      have e : lexLt p q = false := by simp [lexLt, h1, h2]
      rw [e] at k; exact k
    · rw [show (p.2 == q.2) = false by simpa using h2]
      refine kat_no (kat_one _ _ (PySem.P.lt_int ?_))
      have e : lexLt p q = decide (p.2 < q.2) := by simp [lexLt, h1]
      rw [e] at k; exact k
  · rw [show (p.1 == q.1) = false by simpa using h1]
    refine kat_no ?_
    have e : lexLt p q = decide (p.1 < q.1) := by simp [lexLt, h1]
    rw [e] at k
    exact oneLt_int k

theorem prs_tups {h : Heap} : ∀ {vs : List Value} {l : List (Int × Int)}, Prs h vs l → ∃ fs, KatTups h vs fs ∧ fs.length = vs.length ∧ ∀ v ∈ fs, ∃ n t, v = .int n t
  | [], _, _ => ⟨[], KatTups.nil, rfl, fun _ h => absurd h (by simp)⟩
  | _ :: _, [], x => by have := x.len; simp at this
  | v :: vs, p :: l, x => by
    obtain ⟨q, hq, T, ta, tb, rfl, ob, ho, hc, n, hd⟩ := x.nth 0 v rfl
    obtain ⟨fs, a, b, c⟩ := prs_tups (vs := vs) (l := l) ⟨by have := x.len; simpa using this, fun i u e => by simpa using x.nth (i + 1) u (by simpa using e)⟩
    refine ⟨.int q.1 ta :: fs, KatTups.cons ho hc hd (by simp) a, by simp [b], fun u hu => ?_⟩
    rcases List.mem_cons.mp hu with rfl | hu
    · exact ⟨_, _, rfl⟩
    · exact c u hu

theorem sorted_few {l : Addr} {vs : List Value} {Q : Value → Shared → Prop} (S : Sat h₀ L m M o d s) (hl : s.heap.IsList l vs.toArray) (h2 : vs.length < 2) (k : ∀ D e s', Grow s s' [(D, lsN vs e)] → Q (.ref D) s') :
    wpAny (model prog w) A (call (.builtin "sorted") [.ref l]) Q E s := by
  refine Calls.call_function_entry kind_sorted plain_sorted entry_sorted (args_sorted1 _) ?_
  unfold Builtin.«sorted»
  refine wpAny_bind (m := checkCount "sorted" 1 1 _) (wpAny_pure ?_)
  refine wpAny_bind (collect_list hl ?_ (by rw [sizeLine_eq]; omega))
  refine wpAny_bind (wpAny_newList ?_ (by rw [sizeLine_eq]; omega))
  have hsz : ((s.heap.push (seqObj "list" #[] 0)).update s.heap.objs.size (Obj.mapSeq (· ++ vs.toArray))).objs.size = s.heap.objs.size + 1 := by
    rw [Heap.size_update, size_push']
  have hoL : (((s.heap.push (seqObj "list" #[] 0)).update s.heap.objs.size (Obj.mapSeq (· ++ vs.toArray))).push (seqObj "list" vs.toArray 0)).get? (s.heap.objs.size + 1) = some (seqObj "list" vs.toArray 0) := by
    rw [← hsz]; exact Heap.get?_push_size _ rfl
  show wpAny _ _ _ _ _ { s with heap := ((s.heap.push (seqObj "list" #[] 0)).update s.heap.objs.size (Obj.mapSeq (· ++ vs.toArray))).push (seqObj "list" vs.toArray 0) }
  rw [hsz]
  generalize hH : ((s.heap.push (seqObj "list" #[] 0)).update s.heap.objs.size (Obj.mapSeq (· ++ vs.toArray))).push (seqObj "list" vs.toArray 0) = H at hoL ⊢
  refine wpAny_bind (wpAny_holding (wpAny_call_entry slot_list_sort ⟨_, hoL, rfl⟩ entry_list_sort ?_ (args_list_sort _)))
  rw [list_sort_plain]
  have ha : s.heap.objs.size + 1 < H.objs.size := Heap.lt_size hoL
  refine wpAny_bind (listItems_at hoL rfl ?_)
  refine wpAny_bind (listUpdate_at hoL rfl ?_ (by rw [List.size_toArray, sizeLine_eq]; omega) (Nat.zero_le _))
  obtain ⟨e1, ho1⟩ : ∃ e1, (H.update (s.heap.objs.size + 1) (Obj.mapSeq fun _ => #[])).get? (s.heap.objs.size + 1) = some (seqObj "list" #[] e1) := ⟨_, get?_update_seq hoL (fun _ => #[])⟩
  refine wpAny_bind (seqEpoch_at ho1 rfl ?_)
  refine wpAny_bind (wpAny_newTuple ?_ (by show vs.length ≤ _; rw [sizeLine_eq]; omega))
  refine wpAny_bind (wpAny_newList ?_ (Nat.zero_le _))
  refine wpAny_holding ?_
  have ho6 : (((H.update (s.heap.objs.size + 1) (Obj.mapSeq fun _ => #[])).push (seqObj "tuple" vs.toArray 0)).push (seqObj "list" #[] 0)).get? (s.heap.objs.size + 1) = some (seqObj "list" #[] e1) := Heap.get?_push_of_some _ (Heap.get?_push_of_some _ ho1)
  show wpAny (model prog w) A.in1.in1 _ _ E { s with heap := ((H.update (s.heap.objs.size + 1) (Obj.mapSeq fun _ => #[])).push (seqObj "tuple" vs.toArray 0)).push (seqObj "list" #[] 0) }
  dsimp only
  have h2' : vs.toArray.size < 2 := by simpa using h2
  rw [if_pos h2', if_pos h2']
  refine wpAny_bind (wpAny_pure ?_)
  rw [StateT.run_pure]
  refine wpAny_bind (wpAny_pure ?_)
  dsimp only
  refine wpAny_bind (seqEpoch_at ho6 rfl ?_)
  have hout : (arrOf (SortSt.mk' general' (vs.toArray.zip vs.toArray) #[] 7 none)).map (·.2) = vs.toArray := by
    show (vs.toArray.zip vs.toArray).map (·.2) = vs.toArray
    apply Array.toList_inj.mp
    have e : ∀ l : List Value, List.map (fun x => x.snd) (l.zip l) = l := fun l => by
      induction l with
      | nil => rfl
      | cons a l ih => simp [ih]
    simpa using e vs
  rw [hout]
  refine wpAny_bind (listUpdate_at ho6 rfl ?_ (Nat.zero_le _) (by rw [List.size_toArray, sizeLine_eq]; omega))
  simp only [bne_self_eq_false, Bool.false_eq_true, if_false]
  obtain ⟨e2, ho7⟩ : ∃ e2, ((((H.update (s.heap.objs.size + 1) (Obj.mapSeq fun _ => #[])).push (seqObj "tuple" vs.toArray 0)).push (seqObj "list" #[] 0)).update (s.heap.objs.size + 1) (Obj.mapSeq fun _ => vs.toArray)).get? (s.heap.objs.size + 1) = some (seqObj "list" vs.toArray e2) := ⟨_, get?_update_seq ho6 (fun _ => vs.toArray)⟩
  refine wpAny_pure ⟨_, rfl, wpAny_pure ⟨_, rfl, k _ e2 _ ⟨fun b ob hb => ?_, fun p hp => ?_, by simp, S.gb, rfl, rfl⟩⟩⟩
  · have hlt : b < s.heap.objs.size := Heap.lt_size hb
    have hb1 : H.get? b = some ob := by
      rw [← hH]
      refine Heap.get?_push_of_some _ ?_
      rw [Heap.get?_update_ne _ _ _ _ (Nat.ne_of_lt hlt)]
      exact Heap.get?_push_of_some _ hb
    show (Heap.update _ _ _).get? b = some ob
    rw [Heap.get?_update_ne _ _ _ _ (Nat.ne_of_lt (Nat.lt_succ_of_lt hlt))]
    refine Heap.get?_push_of_some _ (Heap.get?_push_of_some _ ?_)
    rw [Heap.get?_update_ne _ _ _ _ (Nat.ne_of_lt (Nat.lt_succ_of_lt hlt))]
    exact hb1
  · rw [List.mem_singleton.mp hp]
    exact ⟨ho7, Heap.get?_none_of_le (Nat.le_succ _)⟩

theorem r_sorted {l : Addr} {vs : List Value} {ps : List (Int × Int)} {Q : Value → Shared → Prop} (S : Sat h₀ L m M o d s) (hl : s.heap.IsList l vs.toArray) (hp : PrsM M vs ps) (h4 : ps.length ≤ 4)
    (k : ∀ D e vs' s', Sat h₀ L m ((D, lsN vs' e) :: M) o d s' → PrsM M vs' (sortF ps) → Q (.ref D) s') :
    wpAny (model prog w) A (call (.builtin "sorted") [.ref l]) Q E s := by
  by_cases h2 : vs.length < 2
  · refine sorted_few S hl h2 fun D e s' G => k D e vs s' (S.grow G) ?_
    have hl2 : ps.length < 2 := hp.len ▸ h2
    have e : sortF ps = ps := by
      unfold sortF sortIx
      rw [if_pos hl2]
      match ps, hl2 with
      | [], _ => rfl
      | [p], _ => rfl
    rw [e]; exact hp
  · have hlen := hp.len
    refine kat_sorted S.fr S.nw hl (by omega) (by omega) fun D e1 h' F' N' hlt => ?_
    have Sx : Sat h₀ L m ((D, seqObj "list" #[] e1) :: M) o d { s with heap := h' } := ⟨F', N', by
      rw [List.map_cons, List.nodup_cons]
      refine ⟨fun h => ?_, S.nd⟩
      obtain ⟨q, hq, e⟩ := List.mem_map.mp h
      have := hlt q hq
      rw [e] at this; exact Nat.lt_irrefl _ this, S.gb, S.os, S.dr⟩
    have hpx : PrsM ((D, seqObj "list" #[] e1) :: M) vs ps := hp.sub fun q hq _ => .tail _ hq
    have hP := hpx.at Sx
    obtain ⟨fs, ft, fl, fi⟩ := prs_tups hP
    refine kat_kind (T := .type "int") ft (by omega) (fun v hv => ?_) rfl ?_
    · obtain ⟨n, t, rfl⟩ := fi v hv
      exact Looks.of_pure rfl
    · have hb : (Value.type "int" != Value.type "tuple") = true := by decide
      rw [hb]
      have hk : kin vs.length (kas_sort vs.length) = true := by
        have : vs.length = 2 ∨ vs.length = 3 ∨ vs.length = 4 := by omega
        rcases this with e | e | e <;> rw [e]
        · exact kin2
        · exact kin3
        · exact kin4
      have nth : ∀ i, i < vs.length → IsPr h' (vs.getD i .none) (ps.getD i (0, 0)) := fun i hi => by
        obtain ⟨q, hq, r⟩ := hP.nth i (vs.getD i .none) (by simp [List.getD_eq_getElem?_getD, hi])
        have : ps.getD i (0, 0) = q := by simp [List.getD_eq_getElem?_getD, hq]
        rw [this]; exact r
      refine kas_run_wp (n := vs.length) (cmp := fun i j => lexLt (ps.getD i (0, 0)) (ps.getD j (0, 0))) (fun i j C hi hj hC => ?_) hk ?_
      · exact keyLt_pr (nth i hi) (nth j hj) hC
      · have hin := krun_in (cmp := fun i j => lexLt (ps.getD i (0, 0)) (ps.getD j (0, 0))) hk
        generalize hr : krun (fun i j => lexLt (ps.getD i (0, 0)) (ps.getD j (0, 0))) (kas_sort vs.length) = r at hin ⊢
        refine KasFin.intro F' N' (UpdF.head fun p hp e => by have := hlt p hp; rw [e] at this; exact Nat.lt_irrefl _ this) fun h'' c F'' N'' => ?_
        refine k D c (r.toList.map fun i => vs.getD i .none) _ ⟨F'', N'', by
          rw [List.map_cons, List.nodup_cons]
          refine ⟨fun h => ?_, S.nd⟩
          obtain ⟨q, hq, e⟩ := List.mem_map.mp h
          have := hlt q hq
          rw [e] at this; exact Nat.lt_irrefl _ this, S.gb, S.os, S.dr⟩ ?_
        have es : sortF ps = r.toList.map fun i => ps.getD i (0, 0) := by
          unfold sortF sortIx
          rw [if_neg (by omega), ← hp.len, hr]
        rw [es]
        refine ⟨by simp, fun i v e => ?_⟩
        rw [List.getElem?_map] at e ⊢
        cases er : r.toList[i]? with
        | none => rw [er] at e; cases e
        | some j =>
          rw [er, Option.map_some] at e
          have e' : vs.getD j .none = v := Option.some.inj e
          have hj : j < vs.length := by
            have := hin.1
            rw [List.all_eq_true] at this
            have h3 := this j (List.mem_of_getElem? er)
            simpa using h3
          refine ⟨ps.getD j (0, 0), rfl, ?_⟩
          obtain ⟨q, hq, rr⟩ := hp.nth j v (by rw [← e']; simp [List.getD_eq_getElem?_getD, hj])
          have : ps.getD j (0, 0) = q := by simp [List.getD_eq_getElem?_getD, hq]
          rw [this]; exact rr

theorem gt_intR {a b : Int} {t u : Tok} {Q : Value → Shared → Prop} (h : Q (.bool (decide (b < a))) s) : wpAny (model prog w) A (compareOp .Gt (.int a t) (.int b u)) Q E s := PySem.P.gt_int h
theorem lt_intR {a b : Int} {t u : Tok} {Q : Value → Shared → Prop} (h : Q (.bool (decide (a < b))) s) : wpAny (model prog w) A (compareOp .Lt (.int a t) (.int b u)) Q E s := PySem.P.lt_int h
theorem eq_intR {a b : Int} {t u : Tok} {Q : Value → Shared → Prop} (h : Q (.bool (decide (a = b))) s) : wpAny (model prog w) A (compareOp .Eq (.int a t) (.int b u)) Q E s := PySem.P.eq_int (by rw [show (a == b) = decide (a = b) from rfl]; exact h)
theorem r_item0 {value slice : Expr} {T : Addr} {x y : Value} {u : Tok} {Q : Value → Shared → Prop} (S : Sat h₀ L m M o d s) (hm : (T, tpN [x, y]) ∈ M) (k : Q x s)
    (hs : subscripted slice false (.ref T) (.int 0 u) = operate [.ref T, .int 0 u] (getItem (.ref T) (.int 0 u)) := by with_unfolding_all rfl) (hg : ∀ r, letTemporaryGo value (.ref T) r = pure () := by intro _; with_unfolding_all rfl) :
    wpAny (model prog w) A (subscriptTail value slice (.ref T) (.int 0 u)) Q E s :=
  item_tupleL (l := [x, y]) ⟨_, S.at hm, rfl, 0, rfl⟩ (by decide) (by decide) (j := 0) rfl rfl k hs hg
theorem r_item1 {value slice : Expr} {T : Addr} {x y : Value} {u : Tok} {Q : Value → Shared → Prop} (S : Sat h₀ L m M o d s) (hm : (T, tpN [x, y]) ∈ M) (k : Q y s)
    (hs : subscripted slice false (.ref T) (.int 1 u) = operate [.ref T, .int 1 u] (getItem (.ref T) (.int 1 u)) := by with_unfolding_all rfl) (hg : ∀ r, letTemporaryGo value (.ref T) r = pure () := by intro _; with_unfolding_all rfl) :
    wpAny (model prog w) A (subscriptTail value slice (.ref T) (.int 1 u)) Q E s :=
  item_tupleL (l := [x, y]) ⟨_, S.at hm, rfl, 0, rfl⟩ (by decide) (by decide) (j := 1) rfl rfl k hs hg

/-- a list's own method -/
theorem r_lmeth {ob : Expr} {name : Str} {apos pos : Pos} {a : Expr} {args : List Expr} {id : String} {Q : Value → Shared → Prop} (slot : Slot "list" name id) (hty : typeOf (.builtin id) = pure (.type "method_descriptor"))
    (h : wpAny (model prog w) A (eval ob env) (fun ov s₁ => ∃ l vs n, ov = .ref l ∧ s₁.heap.get? l = some (lsN vs n) ∧ wpAny (model prog w) A (spliced (backTo pos (starEach (a :: args) env))) (fun xs s₂ => wpAny (model prog w) A (call (.builtin id) (.ref l :: xs)) Q E s₂) E s₁) E s)
    (he : starEach (a :: args) env = (false, eval a env) :: starEach args env := by with_unfolding_all rfl)
    (hbase : attributeBase ob name env (eval ob env) = eval ob env := by with_unfolding_all rfl)
    (hfew : ((backTo pos (starEach (a :: args) env)).all (fun x => !x.1) && (backToKw pos (keywordEach [] env)).all (fun x => x.1.isSome)
      && decide ((a :: args).length + ([] : List Keyword).length + (if ([] : List Keyword).isEmpty then 0 else 1) < 30)) = true := by with_unfolding_all rfl)
    (hline : (apos.endLine == pos.line) = true := by rfl) (hpl : (backTo pos (starEach args env)).any (·.1) = false := by with_unfolding_all rfl) :
    wpAny (model prog w) A (eval (.Call (.Attribute ob name apos) (a :: args) [] pos) env) Q E s := by
  refine wpAny_Call_method_lateS hbase hfew hline (wpAny_mono h (fun ov s₁ h₁ => ?_) fun _ _ e => e)
  obtain ⟨l, vs, n, rfl, hl, k⟩ := h₁
  refine ⟨"list", id, PySem.F.plainAttrs_list, slot, hty, ⟨_, hl, rfl⟩, fun a e => by cases e; exact ⟨_, hl, rfl⟩, ?_⟩
  rw [he] at k ⊢
  exact callWith_builtin (by show (false || (backTo pos (starEach args env)).any (·.1)) = false; rw [hpl]; rfl) (evalArgs_plain k)
end

end
section
open PySem.Spec PySem.Calls PySem.SeqAt
open Sem (wp)
section
variable {prog : Program} {w : World} {A : Around} {E : Value → Shared → Prop} {s : Shared} {b : Nat}
theorem codeC_func {R : Result → Shared → Prop} {body : List Stmt} {env : Env} (h : wpC (model prog w) (A.deeper env) (execs body env) (fun f s' => R (.ok (.ret (match f with | .ret v => v | _ => .none))) s') (fun _ _ => False) s) :
    codeC (model prog w) A (.func body env) R s := by
  refine codeC_of_tree ?_
  show wpC _ (A.deeper env) (do point; match ← (execs body env).onRaise (leaving env) with | .ret v => ret v | _ => ret .none) _ _ s
  refine wpC_then (wpAny_point (wpC_bind (wpC_onRaise (wpC_mono h (fun f s' h' => ?_) fun _ _ h' => h'))))
  cases f <;> exact wpC_pure h'
theorem codeC_call_function {R : Result → Shared → Prop} {a : Addr} {args : Args} {o : Obj} {fd : FuncData} {body : List Stmt} (hroom : A.depth < recursionLimit) (ho : s.heap.get? a = some o)
    (hd' : o.data = .func fd) (hco : fd.scope.isCoroutine = false) (hgen : fd.scope.isGenerator = false) (hbody : fd.body = .stmts body) (hcd : s.heap.CodeRec fd.code fd.qualname)
    (h : wpAny (model prog w) A.in1 (bindArgs fd args) (fun binds s₁ =>
      wpAny (model prog w) A.in1 (newFunctionEnv fd.scope fd.globals fd.closure binds (fd.qualname ++ ".<locals>.") (some a) fd.code none fd.builtins)
        (fun env s₂ => s₂.heap.NoLimit ∧ codeC (model prog w) A (.func body env) R s₂) (fun e s' => R (.error e) s') s₁) (fun e s' => R (.error e) s') s) :
    codeC (model prog w) A (.call (.ref a) args) R s := by
  refine codeC_of_tree ?_
  show wpC _ A.in1 (callAny (.ref a) args) _ _ s
  simp only [callAny]
  refine wpC_then (wpAny_load ho ?_)
  obtain ⟨c, oc, vs, tq, hc, hoc, hdc, hq⟩ := hcd
  simp only [hd', callFunction, hco, hgen, hbody, hc]
  rw [hc] at h
  refine wpC_then (m := field (.ref c) 1) (wpAny_field hoc hdc hq (wpC_then (wpAny_pure ?_)))
  exact wpC_then (wpAny_mono h (fun binds s₁ h₁ => wpC_then (wpAny_mono h₁ (fun env s₂ h₂ => wpC_then (wpAny_enterFrame h₂.1 hroom
    (wpC_pure (And.intro rfl ⟨rfl, h₂.2⟩)))) fun _ _ h' => h')) fun _ _ h' => h')

theorem r_callX {f : Addr} {fo : Obj} {fd : FuncData} {args : List Value} {binds : List (Str × Value)} {body : List Stmt} {Q : Value → Shared → Prop}
    (R : Room A (b + 1)) (ho : s.heap.get? f = some fo) (hfo : fo.data = .func fd) (hb : fd.body = .stmts body) (hcd : s.heap.CodeRec fd.code fd.qualname) (hlim : s.heap.NoLimit)
    (hbind : bindArgs fd ⟨args, []⟩ = pure binds) (hc : ∀ x ∈ fd.scope.names, x.2 ≠ .cell) (hl : ∀ x ∈ binds, fd.scope.names.lookup x.1 = some .local) (g : AllBare s.gens)
    (hco : fd.scope.isCoroutine = false) (hgen : fd.scope.isGenerator = false) (hk : fd.scope.kind = .function)
    (k : ∀ A1 s', Room A1 b → Sat s.heap s.heap.objs.size (fun x => binds.reverse.lookup x) [] s.os s.drawn s' →
      wpC (model prog w) A1 (execs body (newEnv fd.scope s.heap.objs.size fd.globals fd.closure (fd.qualname ++ ".<locals>.") (some f) fd.code none fd.builtins))
        (fun fl s'' => Q (match fl with | .ret v => v | _ => .none) s'') (fun _ _ => False) s') :
    wpC (model prog w) A (call (.ref f) args) Q E s := by
  refine wpC_call (codeC_call_function (by have := R.dep; omega) ho hfo hco hgen hb hcd ?_)
  rw [hbind]
  refine wpAny_pure (wpAny_newFunctionEnv hc hl (fun h' hn hsb => ?_) hk)
  refine ⟨hlim.fresh _ hsb, codeC_func (wpC_mono (k _ _ (R.deeper _) ⟨⟨hn, fun b o e => hsb.extBut b o (Nat.ne_of_lt (Heap.lt_size e)) (Heap.get?_push_of_some _ e), Nat.le_refl _⟩, News.nil, List.nodup_nil, g, rfl, rfl⟩) (fun _ _ h => h) fun _ _ h => h.elim)⟩

theorem r_callCX {f : Addr} {fo : Obj} {fd : FuncData} {args : List Value} {binds : List (Str × Value)} {body : List Stmt} {Q : Value → Shared → Prop}
    (R : Room A (b + 1)) (ho : s.heap.get? f = some fo) (hfo : fo.data = .func fd) (hb : fd.body = .stmts body) (hcd : s.heap.CodeRec fd.code fd.qualname) (hlim : s.heap.NoLimit)
    (hbind : bindArgs fd ⟨args, []⟩ = pure binds) (hcl : fd.closure = [])
    (hkind : ∀ x ∈ binds, fd.scope.names.lookup x.1 = some .local ∨ (fd.scope.names.lookup x.1 = some .cell ∧ ((cellsFrom (s.heap.objs.size + 1) fd.scope.names []).lookup x.1).isSome = true)) (g : AllBare s.gens)
    (hnd : ((cellsFrom (s.heap.objs.size + 1) fd.scope.names []).map (·.1)).Nodup)
    (hco : fd.scope.isCoroutine = false) (hgen : fd.scope.isGenerator = false) (hk : fd.scope.kind = .function)
    (k : ∀ A1 cells s', Room A1 b → CellsAre (bindC (fun n => fd.scope.names.lookup n) binds fun _ => none) (cellsFrom (s.heap.objs.size + 1) fd.scope.names []) cells →
      Sat s.heap s.heap.objs.size (bindL (fun n => fd.scope.names.lookup n) binds fun _ => none) cells s.os s.drawn s' →
      wpC (model prog w) A1 (execs body (newEnv fd.scope s.heap.objs.size fd.globals (cellsFrom (s.heap.objs.size + 1) fd.scope.names []) (fd.qualname ++ ".<locals>.") (some f) fd.code none fd.builtins))
        (fun fl s'' => Q (match fl with | .ret v => v | _ => .none) s'') (fun _ _ => False) s') :
    wpC (model prog w) A (call (.ref f) args) Q E s := by
  refine wpC_call (codeC_call_function (by have := R.dep; omega) ho hfo hco hgen hb hcd ?_)
  rw [hbind, hcl]
  refine wpAny_pure (wpAny_newFunctionEnv_cells hk hkind fun env he s' X => ?_)
  subst he
  have hlt : ∀ n c, (n, c) ∈ cellsFrom (s.heap.objs.size + 1) fd.scope.names [] → s.heap.objs.size < c := X.above
  obtain ⟨cells, e1, e2, CA⟩ := cells_ledger (h := s'.heap) (cellsFrom (s.heap.objs.size + 1) fd.scope.names []) fun n c hm => X.cell n c (lookup_of_mem_nodup hnd hm)
  have hcells : ∀ p ∈ cells, s.heap.objs.size < p.1 := fun p hp => by
    have h := List.mem_map_of_mem (f := fun p : Addr × Obj => p.1) hp
    rw [e1] at h
    obtain ⟨q, hq, e⟩ := List.mem_map.mp h
    exact e ▸ hlt q.1 q.2 hq
  obtain ⟨h₁, tk, rfl⟩ := X.toInCall.same
  have S' : Sat s.heap s.heap.objs.size (bindL (fun n => fd.scope.names.lookup n) binds fun _ => none) cells s.os s.drawn { s with heap := h₁, toks := tk } :=
    ⟨⟨X.toInCall.ns, X.toInCall.keep, Nat.le_refl _⟩, fun p hp => ⟨e2 p hp, Nat.ne_of_gt (hcells p hp), Heap.get?_none_of_le (Nat.le_of_lt (hcells p hp))⟩, by
      rw [e1]
      unfold List.Nodup
      rw [List.pairwise_map]
      exact X.apart, g, rfl, rfl⟩
  exact ⟨hlim.keeps X.toInCall.keep, codeC_func (wpC_mono (k _ _ _ (R.deeper _) CA S') (fun _ _ h => h) fun _ _ h => h.elim)⟩
end
namespace B
theorem mro : mroOf (.type "bytearray") = pure [.type "bytearray", .type "object"] := by rw [mroOf_type]; kernel_rfl
theorem look_new : typeLookup (.type "bytearray") "__new__" = pure (some (.builtin "bytearray.__new__")) := by rw [typeLookup_type, builtinLookup_eq_fast]; kernel_rfl
theorem slot_init : Slot "bytearray" "__init__" "bytearray.__init__" :=
  .of (owner := "bytearray") (n := "__init__") (by rw [typeLookup_type, builtinLookup_eq_fast]; kernel_rfl) (by decide +kernel) (by decide +kernel) (by decide +kernel)
    (by first | exact .inl (by decide +kernel) | exact .inr (by decide +kernel)) (by rw [isSubtype_type]; kernel_rfl)
theorem called : TypeCalled "bytearray" "bytearray.__new__" "bytearray.__init__" :=
  ⟨by decide +kernel, by decide +kernel, ⟨_, _, mro⟩, madeBy_type mro look_new (by decide +kernel), by decide +kernel, by rw [isSubtype_type]; kernel_rfl, slot_init⟩
theorem typeCall (a : Value) : checkTypeCall "bytearray" ⟨[a], []⟩ = pure () := by kernel_rfl
theorem newCall (a : Value) : checkBuiltinCall "bytearray.__new__" ⟨[.type "bytearray", a], []⟩ = pure () := by kernel_rfl
theorem entry_new : entryFor table "bytearray.__new__" = some Builtin.«list.__new__» := entryFor_alias (id' := "list.__new__") (by kernel_rfl) rfl (by decide +kernel) (by kernel_rfl)
theorem plain_new : plainId "bytearray.__new__" = true := by decide +kernel
theorem entry_init : entryFor table "bytearray.__init__" = some Builtin.«bytearray.__init__» := entryFor_of_tree (by kernel_rfl)
theorem plain_init : plainId "bytearray.__init__" = true := by decide +kernel
theorem sub_self : isSubtype (.type "bytearray") (.type "bytearray") = pure true := by rw [isSubtype_type]; kernel_rfl
theorem args_init (a b : Value) : argsOk "bytearray.__init__" ⟨[a, b], []⟩ := by unfold argsOk; kernel_rfl
set_option maxRecDepth 1000000 in
set_option maxHeartbeats 4000000 in
theorem owner_new : ("bytearray.__new__".splitOn ".__new__").headD "" = "bytearray" := by simp +decide [String.splitOn, String.splitOnAux]
end B

end
section
open PySem.Spec PySem.Calls PySem.SeqAt
open Sem (wp)
section
variable {prog : Program} {w : World} {A : Around} {E : Value → Shared → Prop} {s : Shared} {b : Nat}
theorem code_ba_new (a : Value) {Q₁ : Value → Shared → Prop}
    (h : Q₁ (.ref s.heap.objs.size) { s with heap := s.heap.push { cls := .type "bytearray", data := .bytearray #[] } }) :
    codeAny (model prog w) A (.call (.builtin "bytearray.__new__") ⟨[.type "bytearray", a], []⟩) (wants Q₁ E) s := by
  refine codeAny_of_tree ?_
  show wpAny _ A.in1 (do checkBuiltinCall "bytearray.__new__" ⟨[.type "bytearray", a], []⟩; again (.builtin "bytearray.__new__" ⟨[.type "bytearray", a], []⟩)) _ _ s
  refine wpAny_bind (wpAny_of_eq (B.newCall a) (wpAny_pure ⟨plainId_quiet B.plain_new _, codeAny_builtin_stack B.entry_new rfl fun p st => ?_⟩))
  rw [Around.under_plainId B.plain_new _]
  have hsub := B.sub_self
  have hown := B.owner_new
  obtain ⟨hp, g, d, tk, os⟩ := s
  simp only [hown]
  wp_walk
  exact h

theorem bad_id {id : String} {as : Args} (h : bad (.builtin id as) = false) : badIds.contains id = false := h
theorem wpC_exported {self : Value} {Q : Bool → Shared → Prop} (h : Q false s) : wpC (model prog w) A (Builtin.Bytes.exported self) Q E s := fun Γ p hΓ hc => by
  unfold Builtin.Bytes.exported
  show Q (((Γ.code, p) :: Γ.below).any _) s
  rw [List.any_eq_false.mpr]
  · exact h
  · intro x hx
    have hb : bad x.1 = false := by
      rcases List.mem_cons.mp hx with rfl | hx
      · exact hc.1
      · exact hc.2 x hx
    obtain ⟨c, p'⟩ := x
    dsimp only at hb ⊢
    cases c <;> try exact Bool.false_ne_true
    rename_i id as
    have h1 := bad_id hb
    have h2 : Builtin.Bytes.decodersThatHold.contains id = false := by
      unfold badIds at h1
      rw [List.contains_eq_any_beq, List.any_append, Bool.or_eq_false_iff] at h1
      rw [List.contains_eq_any_beq]; exact h1.2
    have h3 : ∀ x ∈ ["bytearray.__contains__", "bytearray.__mod__", "bytearray.__rmod__", "_struct.pack_into.held", "bytearray.find.held"], id ≠ x := fun x hx e => by
      unfold badIds at h1
      rw [List.contains_eq_any_beq, List.any_append, Bool.or_eq_false_iff] at h1
      have := List.any_eq_false.mp h1.1 x hx
      rw [e] at this
      exact this (beq_self_eq_true _)
    split
    · rename_i e; exact absurd (by injection e with e1; injection e1) (h3 "bytearray.__contains__" (by decide))
    · rename_i e; exact absurd (by injection e with e1; injection e1) (h3 "bytearray.__mod__" (by decide))
    · rename_i e; exact absurd (by injection e with e1; injection e1) (h3 "bytearray.__rmod__" (by decide))
    · rename_i e; exact absurd (by injection e with e1; injection e1) (h3 "_struct.pack_into.held" (by decide))
    · rename_i e; exact absurd (by injection e with e1; injection e1) (h3 "bytearray.find.held" (by decide))
    · rename_i e
      injection e with e1
      injection e1 with e2
      subst e2
      rw [h2, Bool.and_false]
      exact Bool.false_ne_true
    · exact Bool.false_ne_true
end

end
section
open PySem.Spec PySem.Calls PySem.SeqAt
open Sem (wp)
namespace B
theorem look_release : typeLookup (.type "bytearray") "__release_buffer__" = pure (some (.builtin "bytearray.__release_buffer__")) := by rw [typeLookup_type, builtinLookup_eq_fast]; kernel_rfl
theorem look_buffer : typeLookup (.type "bytearray") "__buffer__" = pure (some (.builtin "bytearray.__buffer__")) := by rw [typeLookup_type, builtinLookup_eq_fast]; kernel_rfl
theorem bind_init (v : Value) : Builtin.Bytes.bindOptional "bytearray.__init__" "bytearray" ["source", "encoding", "errors"] [v] [] = pure [some v, none, none] := by kernel_rfl
end B
noncomputable abbrev baN (b : Array UInt8) : Obj := { cls := .type "bytearray", data := .bytearray b }
section
variable {prog : Program} {w : World} {A : Around} {E : Value → Shared → Prop} {s : Shared} {b : Nat}
theorem slot_own {D : Addr} {bs : Array UInt8} {name id : String} {Q : Bool → Shared → Prop} (ho : s.heap.get? D = some (baN bs)) (hl : typeLookup (.type "bytearray") name = pure (some (.builtin id))) (he : id.endsWith ("." ++ name) = true)
    (hd : id.dropRight (name.length + 1) = "bytearray") (h : Q true s) : wpAny (model prog w) A (Builtin.Bytes.slotIsOwn (.ref D) name) Q E s := by
  unfold Builtin.Bytes.slotIsOwn
  have hT : s.TypeIs (.ref D) "bytearray" := ⟨_, ho, rfl⟩
  refine wpAny_bind (wpAny_specialOf hT hl ?_)
  dsimp only
  rw [he, hd]
  exact wpAny_isInstance hT B.sub_self h
theorem own_release {D : Addr} {bs : Array UInt8} {Q : Bool → Shared → Prop} (ho : s.heap.get? D = some (baN bs)) (h : Q false s) : wpAny (model prog w) A (Builtin.Bytes.ownRelease (.ref D)) Q E s := by
  unfold Builtin.Bytes.ownRelease
  exact wpAny_bind (slot_own ho B.look_release (by decide +kernel) (by decide +kernel) (wpAny_pure h))
theorem ba_write {D : Addr} {bs : Array UInt8} {f : Array UInt8 → Array UInt8} {Q : Unit → Shared → Prop} (ho : s.heap.get? D = some (baN bs)) (hz : (f bs).size ≤ 1000000)
    (h : ∀ h', Heap.SameBut D s.heap h' → h'.get? D = some (baN (f bs)) → Q () { s with heap := h' }) : wpAny (model prog w) A (Builtin.Bytes.write (.ref D) f) Q E s := by
  show wpAny _ _ (updateBytearray D f) _ _ _
  unfold updateBytearray
  refine wpAny_bind (wpAny_load ho ?_)
  show wpAny _ _ (update D (Obj.mapBytearray f) >>= fun _ => lookBehind D) _ _ _
  refine wpAny_bind (wpAny_update ho ?_)
  have hS₂ : (s.heap.update D (Obj.mapBytearray f)).get? D = some (baN (f bs)) := Heap.get?_update_self (Obj.mapBytearray f) ho rfl
  refine wpAny_lookBehind hS₂ ?_ (h _ (Heap.SameBut.update ..) hS₂)
  show (if (f bs).size > sizeLine then some "bytearray:memory" else none) = none
  rw [if_neg]
  rw [sizeLine_eq]; omega

theorem asStr_int {n : Int} {t : Tok} : asStr? (.int n t) = pure none := by
  unfold asStr? notAStandIn
  rfl
theorem ba_init {D : Addr} {n : Nat} {t : Tok} {P : Fin → Shared → Prop} (ho : s.heap.get? D = some (baN #[])) (hn : n ≤ 1000)
    (h : ∀ h', Heap.SameBut D s.heap h' → h'.get? D = some (baN (Array.replicate n 0)) → P (.done (.ret .none)) { s with heap := h' }) :
    wpC (model prog w) A (Builtin.«bytearray.__init__» ⟨[.ref D, .int n t], []⟩) P E s := by
  unfold Builtin.«bytearray.__init__»
  refine wpC_then (own_release ho ?_)
  rw [if_neg Bool.false_ne_true]
  refine wpC_then (wpAny_of_eq (B.bind_init _) ?_)
  refine wpC_then (wpAny_of_eq (a := ()) rfl ?_)
  refine wpC_then (wpAny_of_eq (a := ()) rfl ?_)
  refine wpC_bind (wpC_bind (wpC_exported ?_))
  refine wpC_of ?_
  dsimp only [toBool]
  rw [show Builtin.Bytes.exportsOf (.ref D) = (do match (← load D).data with | .bytearray _ n => pure n | _ => pure 0) from rfl]
  refine wpAny_bind (wpAny_bind (wpAny_load ho (wpAny_pure (wpAny_pure ?_))))
  rw [if_neg (by decide)]
  refine wpC_of ?_
  refine wpAny_bind (ba_write ho (Nat.zero_le _) fun h1 hs1 ho1 => ?_)
  have f1 := AutoSeq1.idx_int
  have hf : ¬ (!Builtin.Bytes.fitsIndex (n : Int)) = true := by unfold Builtin.Bytes.fitsIndex; simp; omega
  have hneg : ¬ (n : Int) < 0 := by omega
  have hmax : ¬ ((n : Int) == 2 ^ 63 - 1) = true := by simp; omega
  have htl : ¬ Builtin.Bytes.tooLong (n : Int).toNat = true := by unfold Builtin.Bytes.tooLong; rw [sizeLine_eq]; simp; omega
  refine wpAny_bind ?_
  rw [asStr_int]
  with_reducible refine wpAny_pure ?_
  simp only [Option.isSome_none, Bool.false_eq_true, if_false, pure_bind]
  rw [show specialOf (.int (n : Int) t) (Str.ofString "__index__") = pure (some (.builtin "int.__index__")) from AutoSeq1.idx_int]
  simp only [Option.isSome_some, if_true, pure_bind]
  rw [show (asIndex (.int (n : Int) t)).attempt = pure (.ok (n : Int)) from rfl]
  simp only [pure_bind]
  rw [if_neg hf, if_neg hneg, if_neg hmax, if_neg htl]
  refine wpAny_bind (wpAny_rule ?_)
  by_cases h0 : (n : Int) > 0
  · rw [if_pos h0]
    refine wpAny_bind (ba_write ho1 (by simp; omega) fun h2 hs2 ho2 => ?_)
    exact wpAny_pure (h h2 ⟨hs2.1.trans hs1.1, fun b hb => (hs2.2 b hb).trans (hs1.2 b hb)⟩ (by simpa using ho2))
  · rw [if_neg h0]
    have hn0 : n = 0 := by omega
    subst hn0
    exact wpAny_pure (h h1 hs1 ho1)
end

end
section
open PySem.Spec PySem.Calls PySem.SeqAt
open Sem (wp)
section
variable {prog : Program} {w : World} {A : Around} {E : Value → Shared → Prop} {s : Shared} {b : Nat}
theorem codeC_builtin {R : Result → Shared → Prop} {id : String} {args : Args} {bi : Builtin} (hb : entryFor table id = some bi)
    (h : wpC (model prog w) (A.under (.builtin id args)) (bi args) (fun fin s' => match fin with | .done f => R (.ok f) s' | .again c' => c'.quiet = true ∧ bad c' = false ∧ codeC (model prog w) A c' R s') (fun e s' => R (.error e) s') s) :
    codeC (model prog w) A (.builtin id args) R s := by
  refine codeC_of_tree ?_
  show wpC _ _ (match entryFor table id with | some b => b args | none => unsupported ((withoutEnding? id "#data").getD id)) _ _ s
  rw [hb]; exact h
theorem codeC_call_init {D : Addr} {n : Nat} {t : Tok} {Q : Value → Shared → Prop} (ho : s.heap.get? D = some (baN #[])) (hn : n ≤ 1000)
    (h : ∀ h', Heap.SameBut D s.heap h' → h'.get? D = some (baN (Array.replicate n 0)) → Q .none { s with heap := h' }) :
    wpC (model prog w) A (call (.builtin "bytearray.__init__") [.ref D, .int n t]) Q E s := by
  refine wpC_call (codeC_of_tree ?_)
  show wpC _ A.in1 (do checkBuiltinCall "bytearray.__init__" ⟨[.ref D, .int n t], []⟩; again (.builtin "bytearray.__init__" ⟨[.ref D, .int n t], []⟩)) _ _ s
  refine wpC_then (B.slot_init.check _ _ _ _ _ _ _ _ (⟨_, ho, rfl⟩ : s.TypeIs (.ref D) "bytearray") (B.args_init _ _) ?_)
  refine wpC_pure ⟨plainId_quiet B.plain_init _, rfl, codeC_builtin B.entry_init ?_⟩
  refine wpC_mono (ba_init (P := fun fin s' => fin = .done (.ret .none) ∧ Q .none s') ho hn fun h' hs ho' => ⟨rfl, h h' hs ho'⟩) (fun fin s' hq => ?_) fun _ _ e => e
  obtain ⟨rfl, hq⟩ := hq
  exact hq

theorem call_ba {n : Nat} {t : Tok} {Q : Value → Shared → Prop} (hn : n ≤ 1000) (hg : AllBare s.gens)
    (h : ∀ D s', Grow s s' [(D, baN (Array.replicate n 0))] → Q (.ref D) s') : wpC (model prog w) A (call (.type "bytearray") [.int n t]) Q E s := by
  have hmade := B.called.made
  have h2 := B.called.canCreate
  refine wpC_call (codeC_of_tree ?_)
  show wpC _ _ (callAny (.type "bytearray") _) _ _ _
  refine wpC_pure ⟨Code.quiet_builtin _ (by decide +kernel), rfl, codeC_builtin F.entry_type_call ?_⟩
  rw [Around.under_plain (weight_type_call_type "bytearray" [.int n t] []) rfl]
  unfold Builtin.«type.__call__»
  dsimp only
  rw [if_neg (by decide)]
  rw [if_neg (by rw [h2]; decide)]
  rw [B.typeCall, B.mro, hmade]
  simp only [pure_bind]
  rw [if_neg (by decide)]
  refine wpC_then (wpAny_holding (wpAny_call (codeAny_mono (code_ba_new (Q₁ := fun v s' => v = .ref s.heap.objs.size ∧ s' = { s with heap := s.heap.push (baN #[]) }) (E := fun _ _ => False) _ ⟨rfl, rfl⟩) fun r s' hr => ?_)))
  cases r with
  | error e => exact hr.elim
  | ok fl =>
    cases fl with
    | ret obj =>
      obtain ⟨rfl, rfl⟩ := hr
      have ho : (s.heap.push (baN #[])).get? s.heap.objs.size = some (baN #[]) := Heap.get?_push_size _ rfl
      have hT : ({ s with heap := s.heap.push (baN #[]) } : Shared).TypeIs (.ref s.heap.objs.size) "bytearray" := ⟨_, ho, rfl⟩
      dsimp only
      refine wpC_then (wpAny_isInstance hT B.sub_self ?_)
      rw [if_neg (by decide)]
      refine wpC_bind (wpC_holding ?_)
      simp only [callSpecial?]
      refine wpC_then (wpAny_specialOf hT B.slot_init.lookup ?_)
      simp only [B.slot_init.bind]
      refine wpC_holding (wpC_then (wpAny_pure (wpC_bind (wpC_mono (codeC_call_init (Q := fun v s' => v = .none ∧ Q (.ref s.heap.objs.size) s') (E := fun _ _ => False) ho hn fun h' hs ho' => ⟨rfl, h _ _ ⟨fun b ob hb => ?_, fun p hp => ?_, by simp, hg, rfl, rfl⟩⟩) (fun v s' hv => ?_) fun _ _ f => f.elim))))
      · exact (hs.2 b (Nat.ne_of_lt (Heap.lt_size hb))).trans (Heap.get?_push_of_some _ hb)
      · rw [List.mem_singleton.mp hp]
        exact ⟨ho', Heap.get?_none_of_le (Nat.le_refl _)⟩
      · obtain ⟨rfl, hq⟩ := hv
        refine wpC_pure ?_
        dsimp only
        rw [if_neg (by decide)]
        exact wpC_pure hq
    | _ => exact hr.elim
end

end
section
open PySem.Spec PySem.Calls PySem.SeqAt
open Sem (wp)
namespace B
theorem slot_setitem : Slot "bytearray" "__setitem__" "bytearray.__setitem__" :=
  .of (owner := "bytearray") (n := "__setitem__") (by rw [typeLookup_type, builtinLookup_eq_fast]; kernel_rfl) (by decide +kernel) (by decide +kernel) (by decide +kernel)
    (by first | exact .inl (by decide +kernel) | exact .inr (by decide +kernel)) (by rw [isSubtype_type]; kernel_rfl)
theorem entry_setitem : entryFor table "bytearray.__setitem__" = some Builtin.«bytearray.__setitem__» := entryFor_of_tree (by kernel_rfl)
theorem args_setitem (a b c : Value) : argsOk "bytearray.__setitem__" ⟨[a, b, c], []⟩ := by unfold argsOk; kernel_rfl
theorem no_bytes : typeLookup (.type "bytearray") "__bytes__" = pure none := by rw [typeLookup_type, builtinLookup_eq_fast]; kernel_rfl
theorem noIndex : typeLookup (.type "bytearray") "__index__" = pure none := by rw [typeLookup_type, builtinLookup_eq_fast]; kernel_rfl
end B
section
variable {prog : Program} {w : World} {A : Around} {E : Value → Shared → Prop} {s : Shared} {env : Env} {h₀ : Heap} {L : Addr} {m : Str → Option Value} {M : List (Addr × Obj)} {o : OsState} {d : Drawn}

theorem set_ba {D : Addr} {bs : Array UInt8} {k v : Nat} {t u : Tok} {Q : Unit → Shared → Prop} (ho : s.heap.get? D = some (baN bs)) (hk : k < bs.size) (hz : bs.size ≤ 1000) (hv : v < 256)
    (h : ∀ h', Heap.SameBut D s.heap h' → h'.get? D = some (baN (bs.setIfInBounds k v.toUInt8)) → Q () { s with heap := h' }) :
    wpAny (model prog w) A (setItem (.ref D) (.int k t) (.int v u)) Q E s := by
  have hT : s.TypeIs (.ref D) "bytearray" := ⟨_, ho, rfl⟩
  unfold setItem
  refine wpAny_holding ?_
  refine wpAny_bind (wpAny_sequenceKey hT (by decide) ?_)
  refine wpAny_bind (wpAny_callSpecial?_slot (name := Str.ofString "__setitem__") hT B.slot_setitem
    (wpAny_call_entry B.slot_setitem hT B.entry_setitem ?_ (B.args_setitem _ _ _)))
  unfold Builtin.«bytearray.__setitem__»
  dsimp only
  rw [if_neg (by decide)]
  have f1 := AutoSeq1.idx_int
  have hf : Builtin.Bytes.fitsIndex (k : Int) = true := by unfold Builtin.Bytes.fitsIndex; simp; omega
  have hsub : Builtin.Bytes.subscript? (.int (k : Int) t) = pure (some (k : Int)) := by
    unfold Builtin.Bytes.subscript?
    rw [show specialOf (.int (k : Int) t) (Str.ofString "__index__") = pure (some (.builtin "int.__index__")) from AutoSeq1.idx_int]
    simp only [pure_bind, Option.isNone_some, Bool.false_eq_true, if_false]
    rw [show asIndex (.int (k : Int) t) = pure (k : Int) from rfl]
    simp only [pure_bind, hf, Bool.not_true, Bool.false_eq_true, if_false]
  rw [hsub]
  simp only [pure_bind]
  have hby : Builtin.Bytes.byteValue (.int (v : Int) u) = pure v.toUInt8 := by
    unfold Builtin.Bytes.byteValue
    rw [show asIndex (.int (v : Int) u) = pure (v : Int) from rfl]
    simp only [pure_bind]
    rw [if_neg (by simp; omega)]
    rfl
  rw [hby]
  simp only [pure_bind]
  refine wpAny_bind ?_
  unfold Builtin.Bytes.payload Builtin.Bytes.payload?
  refine wpAny_bind (wpAny_bind (wpAny_load ho (wpAny_pure (wpAny_pure ?_))))
  have hs : seqIndex? (k : Int) bs.size = some k := by
    unfold seqIndex?
    simp
    omega
  rw [hs]
  refine wpAny_bind (ba_write ho (by simp; omega) fun h' hs' ho' => ?_)
  exact wpAny_pure ⟨_, rfl, wpAny_pure (h h' hs' ho')⟩

theorem buf_ba {D : Addr} {bs : Array UInt8} {id : String} {Q : Option (Array UInt8) → Shared → Prop} (ho : s.heap.get? D = some (baN bs)) (h : Q (some bs) s) : wpAny (model prog w) A (Builtin.Bytes.buffer? id (.ref D) true) Q E s := by
  have hT : s.TypeIs (.ref D) "bytearray" := ⟨_, ho, rfl⟩
  unfold Builtin.Bytes.buffer?
  refine wpAny_bind (wpAny_specialOf hT B.look_buffer ?_)
  refine wpAny_bind (slot_own ho B.look_buffer (by decide +kernel) (by decide +kernel) ?_)
  rw [if_neg (by decide)]
  refine wpAny_bind (wpAny_specialOf hT B.look_buffer ?_)
  dsimp only
  refine wpAny_bind (own_release ho ?_)
  rw [if_neg (by decide)]
  refine wpAny_bind ?_
  unfold Builtin.Bytes.payload Builtin.Bytes.payload?
  refine wpAny_bind (wpAny_bind (wpAny_load ho (wpAny_pure (wpAny_pure ?_))))
  exact wpAny_pure h

theorem bytes_ba {D : Addr} {bs : Array UInt8} {Q : Value → Shared → Prop} (ho : s.heap.get? D = some (baN bs)) (hz : bs.size ≤ 1000) (h : ∀ t n, Q (.bytes bs t) { s with toks := n }) :
    wpAny (model prog w) A (call (.type "bytes") [.ref D]) Q E s := by
  have hT : s.TypeIs (.ref D) "bytearray" := ⟨_, ho, rfl⟩
  refine callType_codes (Q₁ := fun obj s₁ => s₁.TypeIs obj "bytes" ∧ Q obj s₁) F.bm_called (F.bm_typeCall _) F.entry_object_init ?_ fun obj s₁ h₁ => ?_
  · refine codeAny_of_tree ?_
    show wpAny _ A.in1.in1 (do checkBuiltinCall "bytes.__new__" ⟨[.type "bytes", .ref D], []⟩; again (.builtin "bytes.__new__" ⟨[.type "bytes", .ref D], []⟩)) _ _ s
    refine wpAny_bind (wpAny_of_eq (F.bm_newCall _) (wpAny_pure ⟨plainId_quiet F.bm_plain _, codeAny_builtin F.bm_entry ?_⟩))
    rw [Around.under_plainId F.bm_plain _]
    unfold Builtin.«bytes.__new__»
    refine wpAny_bind (wpAny_of_eq (a := true) rfl ?_)
    refine bm_if_false rfl ?_
    refine wpAny_bind (wpAny_of_eq F.bm_sub ?_)
    refine bm_if_false rfl ?_
    refine wpAny_bind (wpAny_of_eq (F.bm_bind _) ?_)
    refine wpAny_bind (wpAny_of_eq (a := ()) rfl ?_)
    refine wpAny_bind (wpAny_of_eq (a := ()) rfl ?_)
    refine bm_if_false rfl ?_
    refine wpAny_bind (wpAny_specialOf hT B.no_bytes ?_)
    refine wpAny_bind (wpAny_bind ?_)
    show wpAny _ _ (load D >>= _) _ _ _
    refine wpAny_bind (wpAny_load ho ?_)
    refine wpAny_pure (wpAny_pure ?_)
    refine bm_if_false rfl ?_
    refine wpAny_bind (wpAny_specialOf hT B.noIndex ?_)
    refine bm_if_true rfl ?_
    have fin : ∀ t n, wpAny (model prog w) A.in1.in1 (ret (.bytes bs t) : Sem PySem.Fin) (fun fin s' => match fin with | .done f => wants (fun obj s₁ => s₁.TypeIs obj "bytes" ∧ Q obj s₁) E (.ok f) s' | .again c' => c'.quiet = true ∧ codeAny (model prog w) A.in1 c' (wants (fun obj s₁ => s₁.TypeIs obj "bytes" ∧ Q obj s₁) E) s') (fun e s' => wants (fun obj s₁ => s₁.TypeIs obj "bytes" ∧ Q obj s₁) E (.error e) s') { s with toks := n } :=
      fun t n => wpAny_pure ⟨PySem.W.typeIs_bytes _ _ _, h t n⟩
    first
      | show wpAny _ _ (Builtin.Bytes.buffer? "bytes.__new__" (.ref D) true >>= _) _ _ _
      | (refine wpAny_bind ?_; show wpAny _ _ (Builtin.Bytes.buffer? "bytes.__new__" (.ref D) true >>= _) _ _ _)
    refine wpAny_bind (buf_ba ho ?_)
    refine wpAny_bind (wpAny_rule (wpAny_bind (wpAny_mkBytes ?_ (by rw [sizeLine_eq]; omega))))
    show wpAny _ _ (if (Value.type "bytes" == Value.type "bytes") = true then _ else _) _ _ _
    refine bm_if_true (by decide) ?_
    first
      | exact fin _ _
      | exact wpAny_bind (wpAny_mono (fin _ _) (fun _ _ h => wpAny_pure h) fun _ _ e => e)
      | exact wpAny_bind (wpAny_pure (fin _ _))
  · exact ⟨h₁.1, F.args_object_init_2 obj _, object_init_meets F.bm_called.init.lookup F.bm_called.made (by decide) prog w A.in1 _ s₁ ⟨h₁.1, rfl, h₁.2⟩⟩

theorem r_setba {D : Addr} {bs : Array UInt8} {i v : Int} {k n : Nat} {t u : Tok} {Q : Unit → Shared → Prop} (S : Sat h₀ L m M o d s) (hm : (D, baN bs) ∈ M) (hi : i = k) (hv : v = n) (hk : k < bs.size) (hz : bs.size ≤ 1000) (hn : n < 256)
    (h : ∀ s', Sat h₀ L m (chg M D (baN (bs.setIfInBounds k n.toUInt8))) o d s' → Q () s') : wpAny (model prog w) A (setItem (.ref D) (.int i t) (.int v u)) Q E s := by
  subst hi hv
  exact set_ba (S.at hm) hk hz hn fun h' hs ho => h _ (S.chg hm hs ho s.toks)
theorem r_bytesba {D : Addr} {bs : Array UInt8} {Q : Value → Shared → Prop} (S : Sat h₀ L m M o d s) (hm : (D, baN bs) ∈ M) (hz : bs.size ≤ 1000) (h : ∀ t s', Sat h₀ L m M o d s' → Q (.bytes bs t) s') :
    wpAny (model prog w) A (call (.type "bytes") [.ref D]) Q E s := bytes_ba (S.at hm) hz fun t n => h t _ (S.tk n)
theorem r_bytesL {l : Addr} {vs : List Value} {ns : List Int} {Q : Value → Shared → Prop} (hh : A.handled = none) (S : Sat h₀ L m M o d s) (hl : s.heap.IsList l vs.toArray) (hi : IntsAre vs ns) (hr : ∀ n ∈ ns, 0 ≤ n ∧ n < 256) (hz : vs.length ≤ 1000)
    (h : ∀ t s', Sat h₀ L m M o d s' → Q (.bytes (byteArr ns) t) s') : wpAny (model prog w) A (call (.type "bytes") [.ref l]) Q E s :=
  call_bytes_ints hl hi hr (by rw [sizeLine_eq]; omega) hh fun h' t k hk => h t _ (S.kept hk)
theorem r_lenB {bs : Array UInt8} {t : Tok} {Q : Value → Shared → Prop} (S : Sat h₀ L m M o d s) (hz : bs.size ≤ 1000) (h : ∀ t s', Sat h₀ L m M o d s' → Q (.int bs.size t) s') :
    wpAny (model prog w) A (call (.builtin "len") [.bytes bs t]) Q E s := PySem.W.len_bytes (by omega) (h _ _ (S.tk _))

theorem r_itemB {value slice : Expr} {bs : Array UInt8} {i : Int} {j : Nat} {t u : Tok} {Q : Value → Shared → Prop} (S : Sat h₀ L m M o d s) (hi : i = j) (hj : j < bs.size) (hz : bs.size ≤ 1000) (k : ∀ t s', Sat h₀ L m M o d s' → Q (.int (bs[j].toNat : Nat) t) s')
    (hs : subscripted slice false (.bytes bs t) (.int i u) = operate [.bytes bs t, .int i u] (getItem (.bytes bs t) (.int i u)) := by with_unfolding_all rfl)
    (ht : ∀ r, letTemporaryGo value (.bytes bs t) r = pure () := by intro _; with_unfolding_all rfl) : wpAny (model prog w) A (subscriptTail value slice (.bytes bs t) (.int i u)) Q E s := by
  subst hi
  refine KBw.item_K rfl (by rw [KBw.ints_length]; omega) (by omega) (by rw [KBw.ints_length]; omega) (fun t' n _ _ => ?_) hs ht
  have e : (KBw.bInts bs).getD ((j : Int)).toNat 0 = (bs[j].toNat : Nat) := by
    rw [List.getD_eq_getElem?_getD, Int.toNat_natCast, KBw.ints_get (Array.getElem?_eq_getElem hj)]; rfl
  rw [e]
  exact k _ _ (S.tk _)
end

end
section
open PySem.Spec PySem.Calls PySem.SeqAt
/-- one-sign texts -/
noncomputable def Sgs (vs : List Value) (cs : List Nat) : Prop := ∃ ps : List (Nat × Tok), vs = ps.map (fun p => .str (T [p.1]) p.2) ∧ ps.map (·.1) = cs
theorem Sgs.nil : Sgs [] [] := ⟨[], rfl, rfl⟩
theorem Sgs.snoc {vs : List Value} {cs : List Nat} (h : Sgs vs cs) (c : Nat) (t : Tok) : Sgs (vs ++ [.str (T [c]) t]) (cs ++ [c]) := by
  obtain ⟨ps, rfl, rfl⟩ := h
  exact ⟨ps ++ [(c, t)], by simp, by simp⟩
theorem Sgs.len {vs : List Value} {cs : List Nat} (h : Sgs vs cs) : vs.length = cs.length := by obtain ⟨ps, rfl, rfl⟩ := h; simp
theorem glue_one : ∀ (cs acc : List Nat), (cs.map fun c => T [c]).foldl (fun (a : Array Nat) (p : Str) => a ++ (T []).cps ++ p.cps) acc.toArray = (acc ++ cs).toArray
  | [], acc => by simp
  | c :: cs, acc => by
    rw [List.map_cons, List.foldl_cons]
    have e : acc.toArray ++ (T []).cps ++ (T [c]).cps = (acc ++ [c]).toArray := by
      show acc.toArray ++ #[] ++ #[c] = _
      simp
    rw [e, glue_one cs]
    simp
theorem glue_T (cs : List Nat) : Builtin.Str.glued (T []) (cs.map fun c => T [c]) = T cs := by
  cases cs with
  | nil => rfl
  | cons c cs =>
    unfold Builtin.Str.glued
    rw [List.map_cons, List.drop_one, List.tail_cons, List.headD_cons]
    have := glue_one cs [c]
    rw [show (T [c]).cps = [c].toArray from rfl, this]
    rfl
theorem len_sum : ∀ (cs : List Nat) (n : Nat), (cs.map fun c => T [c]).foldl (fun (a : Nat) (p : Str) => a + p.length + (T []).length) n = n + cs.length
  | [], n => by simp
  | c :: cs, n => by
    rw [List.map_cons, List.foldl_cons, len_sum cs, T_length, T_length]
    simp; omega
section
variable {prog : Program} {w : World} {A : Around} {E : Value → Shared → Prop} {s : Shared} {env : Env} {h₀ : Heap} {L : Addr} {m : Str → Option Value} {M : List (Addr × Obj)} {o : OsState} {d : Drawn}
theorem r_joinT {l : Addr} {vs : List Value} {cs : List Nat} {t : Tok} {Q : Value → Shared → Prop} (S : Sat h₀ L m M o d s) (hl : s.heap.IsList l vs.toArray) (hc : Sgs vs cs) (hz : cs.length ≤ 1000) (k : ∀ t s', Sat h₀ L m M o d s' → Q (.str (T cs) t) s') :
    wpAny (model prog w) A (call (.builtin "str.join") [.str (T []) t, .ref l]) Q E s := by
  obtain ⟨ps, rfl, rfl⟩ := hc
  have e1 : (ps.map fun p => (Value.str (T [p.1]) p.2)) = strValues (ps.map fun p => (T [p.1], p.2)) := by simp [strValues]
  have e2 : (ps.map fun p => (T [p.1], p.2)).map (·.1) = (ps.map (·.1)).map fun c => T [c] := by simp
  rw [e1] at hl
  refine call_meets PySem.F.slot_str_join (rfl : s.TypeIs (.str (T []) t) "str") PySem.F.entry_str_join (PySem.F.args_str_join_2 _ _) (meets_str_join_list (T []) t l (ps.map fun p => (T [p.1], p.2)) ?_) ⟨hl, ?_⟩
  · rw [e2, ← Array.foldl_toList, List.toList_toArray, len_sum]
    unfold Builtin.Str.tooLong
    rw [sizeLine_eq]
    exact decide_eq_false (by simp at hz ⊢; omega)
  · have hg : Builtin.Str.glued (T []) ((ps.map fun p => (T [p.1], p.2)).map (·.1)) = T (ps.map (·.1)) := by rw [e2]; exact glue_T _
    clear hl e1 e2
    match ps, hg, hz, k with
    | [], hg, hz, k =>
      have e : joinMade (T []) (([] : List (Nat × Tok)).map fun p => (T [p.1], p.2)) = .str (Builtin.Str.glued (T []) ((([] : List (Nat × Tok)).map fun p => (T [p.1], p.2)).map (·.1))) := rfl
      rw [e, hg]
      exact ⟨by rw [T_length, sizeLine_eq]; omega, k _ _ (S.tk _)⟩
    | [p], hg, hz, k => exact k p.2 s S
    | p :: q :: r, hg, hz, k =>
      have e : joinMade (T []) ((p :: q :: r).map fun p => (T [p.1], p.2)) = .str (Builtin.Str.glued (T []) (((p :: q :: r).map fun p => (T [p.1], p.2)).map (·.1))) := rfl
      rw [e, hg]
      exact ⟨by rw [T_length, sizeLine_eq]; omega, k _ _ (S.tk _)⟩
theorem itb_bytes {bs : Array UInt8} {t : Tok} {h : Heap} {x : Str} {px : Pos} (hh : A.handled = none) : Itb prog w A h (.bytes bs t) (.Name x px) bs.size (fun i v => ∃ c u, bs[i]? = some c ∧ v = .int (c.toNat : Int) u) := by
  intro s Q E hk k
  refine KBw.pyIter_bytes (k _ _ _ (KBw.walks hh _ bs t) rfl (fun b hb => .inl (List.mem_singleton.mp hb)) (fun i h st => let ⟨o, ho, _⟩ := st; ⟨o, ho⟩) (fun i s v Q E st hq => wpAny_pure hq) ⟨_, Heap.get?_push_size _ rfl, rfl, rfl⟩)
theorem r_ord {c : Nat} {t : Tok} {Q : Value → Shared → Prop} (S : Sat h₀ L m M o d s) (k : ∀ t s', Sat h₀ L m M o d s' → Q (.int c t) s') : wpAny (model prog w) A (call (.builtin "ord") [.str ⟨#[c]⟩ t]) Q E s := PySem.P.ord_of_char (k _ _ (S.tk _))
theorem r_chr {c : Nat} {t : Tok} {Q : Value → Shared → Prop} (hc : c ≤ 1000) (S : Sat h₀ L m M o d s) (k : ∀ t s', Sat h₀ L m M o d s' → Q (.str (T [c]) t) s') : wpAny (model prog w) A (call (.builtin "chr") [.int c t]) Q E s :=
  PyProof.Rows.chr_of_range (by omega) (by omega) (k _ _ (S.tk _))
/-- a text's own method -/
theorem r_smeth {ob : Expr} {name : Str} {apos pos : Pos} {a : Expr} {args : List Expr} {id : String} {Q : Value → Shared → Prop} (slot : Slot "str" name id) (hty : typeOf (.builtin id) = pure (.type "method_descriptor"))
    (h : wpAny (model prog w) A (eval ob env) (fun ov s₁ => ∃ x t, ov = .str x t ∧ wpAny (model prog w) A (spliced (backTo pos (starEach (a :: args) env))) (fun xs s₂ => wpAny (model prog w) A (call (.builtin id) (.str x t :: xs)) Q E s₂) E s₁) E s)
    (he : starEach (a :: args) env = (false, eval a env) :: starEach args env := by with_unfolding_all rfl)
    (hbase : attributeBase ob name env (eval ob env) = eval ob env := by with_unfolding_all rfl)
    (hfew : ((backTo pos (starEach (a :: args) env)).all (fun x => !x.1) && (backToKw pos (keywordEach [] env)).all (fun x => x.1.isSome)
      && decide ((a :: args).length + ([] : List Keyword).length + (if ([] : List Keyword).isEmpty then 0 else 1) < 30)) = true := by with_unfolding_all rfl)
    (hline : (apos.endLine == pos.line) = true := by rfl) (hpl : (backTo pos (starEach args env)).any (·.1) = false := by with_unfolding_all rfl) :
    wpAny (model prog w) A (eval (.Call (.Attribute ob name apos) (a :: args) [] pos) env) Q E s := by
  refine wpAny_Call_method_lateS hbase hfew hline (wpAny_mono h (fun ov s₁ h₁ => ?_) fun _ _ e => e)
  obtain ⟨x, t, rfl, k⟩ := h₁
  refine ⟨"str", id, PySem.F.plainAttrs_str, slot, hty, rfl, (fun a e => by cases e), ?_⟩
  rw [he] at k ⊢
  exact callWith_builtin (by show (false || (backTo pos (starEach args env)).any (·.1)) = false; rw [hpl]; rfl) (evalArgs_plain k)
end

end
-- a look-up in a frame's map
local macro_rules | `(tactic| tb_rel) => `(tactic| first | with_reducible assumption | with_reducible exact if_same | (with_reducible refine if_nm (by simp) ?_; tb_rel) | (with_reducible refine (if_nm (by simp) ?_); tb_rel) | rfl)
-- one step along the text
local macro_rules | `(tactic| tb_start) => `(tactic| first
  | with_reducible refine wpAny_execs_cons ?_
  | with_reducible refine wpAny_execs_nil ?_
  | with_reducible refine ite_tt ?_
  | with_reducible refine ite_ff ?_
  | with_reducible refine wpAny_Assign_Name ?_ (by with_unfolding_all rfl)
  | with_reducible refine wpAny_AugAssign_Name ?_
  | with_reducible refine wpAny_If ?_
  | with_reducible refine wpAny_Expr_any ?_ (by with_unfolding_all rfl) (by with_unfolding_all rfl)
  | with_reducible refine wpAny_Return_some ?_
  | with_reducible refine wpAny_BinOp ?_
  | with_reducible refine wpAny_isTrue_Compare1 ?_ (by with_unfolding_all rfl)
  | with_reducible refine wpAny_Compare1 ?_ (by with_unfolding_all rfl)
  | with_reducible refine isTrue_and ?_
  | with_reducible refine isTrue_and_nil ?_
  | with_reducible refine wpAny_Call_NameR ?_
  | with_reducible refine PyProof.Rows.callWith_builtin1 ?_ (by with_unfolding_all rfl) (by with_unfolding_all rfl)
  | with_reducible refine PyProof.Rows.callWith_type1 ?_ (by with_unfolding_all rfl) (by with_unfolding_all rfl)
  | with_reducible refine spliced_more ?_ (by with_unfolding_all rfl)
  | with_reducible refine spliced_none ?_
  | with_reducible refine r_sliceT ?_ (by intro _ _; with_unfolding_all rfl)
  | with_reducible refine Subscript_ ?_
  | with_reducible refine wpAny_truthy_bool ?_
  | with_reducible refine truthy_int ?_
  | with_reducible refine r_loc (by assumption) (by k_dflt tb_rel) ?_ (by with_unfolding_all rfl) (by with_unfolding_all rfl) (by k_dflt decide)
  | with_reducible refine r_ldn (by assumption) (by k_dflt tb_rel) ?_ (by with_unfolding_all rfl) (by with_unfolding_all rfl)
  | (with_reducible refine r_kint (by assumption) ?_; intro _ _ _)
  | (with_reducible refine r_kT lit_blank (by assumption) ?_; intro _ _ _)
  | (with_reducible refine r_kT lit_o (by assumption) ?_; intro _ _ _)
  | (with_reducible refine r_kT lit_nil (by assumption) ?_; intro _ _ _)
  | (with_reducible refine r_add (by assumption) ?_; intro _ _ _)
  | (with_reducible refine r_sub (by assumption) ?_; intro _ _ _)
  | (with_reducible refine r_iadd (by assumption) ?_; intro _ _ _)
  | (with_reducible refine r_isub (by assumption) ?_; intro _ _ _)
  | (with_reducible refine r_eqT ?_)
  | (with_reducible refine wpAny_isTrue_value ?_ (by with_unfolding_all rfl))
  | (with_reducible refine r_st (by assumption) ?_ (by with_unfolding_all rfl) (by with_unfolding_all rfl); intro _ _)
  | (with_reducible refine r_globS (by assumption) (by assumption) (by k_dflt rfl) ?_ (by with_unfolding_all rfl) (by with_unfolding_all rfl) (by with_unfolding_all rfl) (by k_dflt decide))
  | with_reducible refine r_bltFS (by assumption) (by assumption) (by kernel_rfl) (by boot_by_name) ?_ (by k_dflt decide) (by with_unfolding_all rfl) (by with_unfolding_all rfl) (by with_unfolding_all rfl) (by with_unfolding_all rfl) (by k_dflt decide)
  | with_reducible refine r_bltTS (by assumption) (by assumption) (by kernel_rfl) (by boot_by_name) ?_ (by k_dflt decide) (by with_unfolding_all rfl) (by with_unfolding_all rfl) (by with_unfolding_all rfl) (by with_unfolding_all rfl) (by k_dflt decide)
  | (with_reducible refine r_celS (by with_unfolding_all rfl) (by assumption) (by assumption) ?_ (by with_unfolding_all rfl) (by with_unfolding_all rfl) (by k_dflt decide))
  | (with_reducible refine r_asgN (by assumption) ?_ (by with_unfolding_all rfl) (by with_unfolding_all rfl); intro _ _)
  | (with_reducible refine r_min2 (by assumption) (by assumption) ?_; intro _ _ _)
  | (with_reducible refine r_max2 (by assumption) (by assumption) ?_; intro _ _ _)
  | (with_reducible refine wpAny_tests_nil ?_)
  | (with_reducible refine wpAny_tests_one ?_)
  | (with_reducible refine r_callKS (by assumption) (by kernel_rfl) ?_ (by with_unfolding_all rfl) (by with_unfolding_all rfl))
  | (with_reducible refine gt_intR ?_)
  | (with_reducible refine lt_intR ?_)
  | (with_reducible refine eq_intR ?_)
  | (with_reducible refine r_range1 (by assumption) ?_; intro _ _ _ _ _ _)
  | (with_reducible refine r_lenT (by assumption) (by assumption) ?_; intro _ _ _))

section
open PySem.Spec PySem.Calls
/-- a call's own answer, the heap as it was -/
noncomputable def Pure (w : World) (f : Addr) (args : List Value) (val : Value → Prop) : Prop :=
  ∀ (A : Around) (s : Shared) (mean : ExcName → Option Value) (mg mb : Str → Option Value) (Q E : Value → Shared → Prop), A.handled = none → A.depth + 20 < recursionLimit → A.units + 100 < cLine → Gl w mean mg mb s.heap → AllBare s.gens →
    (∀ v s', val v → Ext s s' → Q v s') → wpAny (model PySem.Challenge.rw_xo0031_01.row.prog w) A (call (.ref f) args) Q E s

noncomputable def lead : List Nat → Nat → Nat
  | c :: r, n + 1 => if c = 32 then lead r n + 1 else 0
  | _, _ => 0
noncomputable def stripF (l : List Nat) (n : Nat) : List Nat :=
  (l.drop (lead l n)).take (l.length - lead l.reverse (n - lead l n) - lead l n)
theorem lead_le : ∀ (l : List Nat) (n : Nat), lead l n ≤ n ∧ lead l n ≤ l.length
  | [], n => by cases n <;> simp [lead]
  | c :: r, 0 => by simp [lead]
  | c :: r, n + 1 => by
    have := lead_le r n
    unfold lead
    split <;> simp <;> omega
theorem lead_step {l : List Nat} {n i : Nat} (hi : i < l.length) (hn : i < n) (h : l[i] = 32) : lead (l.drop i) (n - i) = lead (l.drop (i + 1)) (n - (i + 1)) + 1 := by
  rw [List.drop_eq_getElem_cons hi, show n - i = (n - (i + 1)) + 1 by omega, lead, if_pos h]
theorem lead_stop {l : List Nat} {n i : Nat} (hi : i < l.length) (h : l[i] ≠ 32) : lead (l.drop i) (n - i) = 0 := by
  rw [List.drop_eq_getElem_cons hi]
  cases n - i with
  | zero => rfl
  | succ k => rw [lead, if_neg h]
theorem lead_zero (l : List Nat) : lead l 0 = 0 := by cases l <;> rfl


inductive Sj1 (l : List Nat) (tx : Tok) (n : Nat) (s : Shared) (k : Nat) (s' : Shared) : Prop
  | mk (i : Nat) (m : Str → Option Value) (t1 t2 : Tok) (v : Int) (S : Sat s.heap s.heap.objs.size m [] s.os s.drawn s') (h1 : m (Str.ofString "s") = some (.str (T l) tx)) (h2 : m (Str.ofString "lpos") = some (.int (i : Nat) t1)) (h3 : m (Str.ofString "amount") = some (.int v t2))
    (h4 : v = (n : Int) - i) (h5 : i ≤ n) (h6 : k = n - i) (h7 : i + lead (l.drop i) (n - i) = lead l n) : Sj1 l tx n s k s'
inductive Sj2 (l : List Nat) (tx : Tok) (n : Nat) (s : Shared) (k : Nat) (s' : Shared) : Prop
  | mk (i : Nat) (m : Str → Option Value) (t1 t2 : Tok) (v u : Int) (t3 : Tok) (S : Sat s.heap s.heap.objs.size m [] s.os s.drawn s') (h1 : m (Str.ofString "s") = some (.str (T l) tx)) (h2 : m (Str.ofString "lpos") = some (.int (lead l n : Nat) t1)) (h3 : m (Str.ofString "amount") = some (.int v t2))
    (h4 : m (Str.ofString "rpos") = some (.int u t3)) (h5 : v = (n : Int) - lead l n - i) (h6 : u = (l.length : Int) - 1 - i) (h7 : i ≤ n - lead l n) (h8 : k = n - lead l n - i) (h9 : i + lead (l.reverse.drop i) (n - lead l n - i) = lead l.reverse (n - lead l n)) : Sj2 l tx n s k s'
set_option maxHeartbeats 4000000 in
theorem strip_ok (w : World) (l : List Nat) (tx : Tok) (n : Nat) (tn : Tok) (hl : l.length ≤ 1000) (hn : n ≤ l.length) :
    Pure w 119 [.str (T l) tx, .int n tn] (fun v => ∃ t, v = .str (T (stripF l n)) t) := by
  intro A s mean mg mb Q E hh hdep hu G g k
  have ho := G.kin 119 _ (rfl : (hd.heap_1 w.params).lookup 119 = some _)
  refine r_call (by omega) ho rfl rfl (codeRec_of (K := (hd.heap_1 w.params)) G.kin (by kernel_rfl)) G.top.nolimit (binds := [(Str.ofString "s", .str (T l) tx), (Str.ofString "amount", .int n tn)]) rfl (by decide) (locs rfl) g rfl rfl rfl ?_
  clear ho
  intro s1 S1
  dsimp only [newEnv]
  (repeat (tb_start; (try dsimp only)))
  refine wpAny_mono (Q := fun f s' => f = .next ∧ ∃ m t1 t2, Sat s.heap s.heap.objs.size m [] s.os s.drawn s' ∧ m (Str.ofString "s") = some (.str (T l) tx) ∧ m (Str.ofString "lpos") = some (.int (lead l n : Nat) t1) ∧ m (Str.ofString "amount") = some (.int (n - lead l n : Nat) t2))
    (r_while (fun k s' => Sj1 l tx n s k s') n ⟨0, _, _, _, _, by assumption, by tb_rel, by tb_rel, by tb_rel, by simp, by omega, by simp, by simp⟩ ?_) ?_ (fun _ _ h => h)
  · rintro k s2 ⟨i, m, t1, t2, v, S2, m1, m2, m3, hv, hi, hk, hld⟩
    (repeat (tb_start; (try dsimp only)))
    split
    · rename_i hv0
      have hin : i < n := by simp at hv0; omega
      have hil : i < l.length := by omega
      (repeat (tb_start; (try dsimp only)))
      refine r_itemT (by assumption) (j := i) rfl hil hl ?_; intro _ _ _
      (repeat (tb_start; (try dsimp only)))
      split
      · rename_i hc
        have hc' : l[i] = 32 := by simpa using hc
        (repeat (tb_start; (try dsimp only)))
        refine ⟨n - (i + 1), by omega, i + 1, _, _, _, _, by assumption, by tb_rel, by tb_rel, by tb_rel, by omega, by omega, rfl, ?_⟩
        rw [← hld, lead_step hil hin hc']; omega
      · rename_i hc
        have hc' : l[i] ≠ 32 := by simpa using hc
        have hld' : lead l n = i := by rw [← hld, lead_stop hil hc']; rfl
        (repeat (tb_start; (try dsimp only)))
        exact ⟨rfl, _, _, _, by assumption, m1, by rw [hld']; exact m2, by rw [hld', m3, hv, Int.ofNat_sub hi]⟩
    · rename_i hv0
      have hin : i = n := by simp at hv0; omega
      have hld' : lead l n = i := by rw [← hld, hin, Nat.sub_self, lead_zero]; rfl
      (repeat (tb_start; (try dsimp only)))
      exact ⟨rfl, _, _, _, by assumption, m1, by rw [hld']; exact m2, by rw [hld', m3, hv, Int.ofNat_sub hi]⟩
  · rintro f s3 ⟨rfl, m, t1, t2, S3, m1, m2, m3⟩
    dsimp only
    (repeat (tb_start; (try dsimp only)))
    have ha := lead_le l n
    have hb := lead_le l.reverse (n - lead l n)
    rw [List.length_reverse] at hb
    refine wpAny_mono (Q := fun f s' => f = .next ∧ ∃ m t1 v t2, Sat s.heap s.heap.objs.size m [] s.os s.drawn s' ∧ m (Str.ofString "s") = some (.str (T l) tx) ∧ m (Str.ofString "lpos") = some (.int (lead l n : Nat) t1) ∧ m (Str.ofString "rpos") = some (.int v t2) ∧ v = (l.length : Int) - 1 - lead l.reverse (n - lead l n))
      (r_while (fun k s' => Sj2 l tx n s k s') (n - lead l n) ⟨0, _, _, _, _, _, _, by assumption, by tb_rel, by tb_rel, by tb_rel, by tb_rel, by omega, by omega, by omega, by simp, by simp⟩ ?_) ?_ (fun _ _ h => h)
    · rintro k s2 ⟨i, m, t1, t2, v, u, t3, S2, m1, m2, m3, m4, hv, hu, hi, hk, hld⟩
      (repeat (tb_start; (try dsimp only)))
      split
      · rename_i hv0
        have hin : i < n - lead l n := by simp at hv0; omega
        have hil : i < l.reverse.length := by rw [List.length_reverse]; omega
        have hil' : l.length - 1 - i < l.length := by omega
        have hrev : l.reverse[i] = l[l.length - 1 - i] := by rw [List.getElem_reverse]
        (repeat (tb_start; (try dsimp only)))
        refine r_itemT (by assumption) (j := l.length - 1 - i) (by omega) hil' hl ?_; intro _ _ _
        (repeat (tb_start; (try dsimp only)))
        split
        · rename_i hc
          have hc' : l.reverse[i] = 32 := by rw [hrev]; simpa using hc
          (repeat (tb_start; (try dsimp only)))
          refine ⟨n - lead l n - (i + 1), by omega, i + 1, _, _, _, _, _, _, by assumption, by tb_rel, by tb_rel, by tb_rel, by tb_rel, by omega, by omega, by omega, rfl, ?_⟩
          rw [← hld, lead_step hil hin hc']; omega
        · rename_i hc
          have hc' : l.reverse[i] ≠ 32 := by rw [hrev]; simpa using hc
          have hld' : lead l.reverse (n - lead l n) = i := by rw [← hld, lead_stop hil hc']; rfl
          (repeat (tb_start; (try dsimp only)))
          exact ⟨rfl, _, _, _, _, by assumption, m1, m2, m4, by rw [hld', hu]⟩
      · rename_i hv0
        have hin : i = n - lead l n := by simp at hv0; omega
        have hld' : lead l.reverse (n - lead l n) = i := by rw [← hld, ← hin, Nat.sub_self, lead_zero]; rfl
        (repeat (tb_start; (try dsimp only)))
        exact ⟨rfl, _, _, _, _, by assumption, m1, m2, m4, by rw [hld', hu]⟩
    · rintro f s4 ⟨rfl, m, t1, v, t2, S4, m1, m2, m3, hv⟩
      dsimp only
      (repeat (tb_start; (try dsimp only)))
      refine ⟨l, _, _, _, _, _, rfl, rfl, rfl, by omega, by omega, by omega, hl, fun ob n' t' hf => ?_⟩
      refine k _ _ ⟨t', ?_⟩ (((Sat.pushed (by assumption) ob).tk _).toExt)
      rw [stripF, show (v + 1).toNat = l.length - lead l.reverse (n - lead l n) by omega, Int.toNat_natCast]

end
section
open PySem.Spec PySem.Calls
open PyProof.Rows.LCg (lst lst_snoc)
noncomputable def slackF (sz : Int) (l : List (Int × Int)) (bx : Int) : Int := bx - 2 * (l.map fun p => min sz p.1).sum
set_option maxHeartbeats 4000000 in
theorem slack_ok (w : World) (sz : Int) (tz : Tok) (hl : Addr) (vs : List Value) (l : List (Int × Int)) (bx : Int) (tb : Tok) (hn : vs.length ≤ 1000) :
    Meet w 1 204 [.int sz tz, .ref hl, .int bx tb] (fun h => h.IsList hl vs.toArray ∧ Prs h vs l) (fun v s s' => (∃ t, v = .int (slackF sz l bx) t) ∧ Ext s s') := by
  intro A s mean mg mb Q E R G g ⟨hli, hpr⟩ k
  have ho := G.kin 204 _ (rfl : (hd.heap_1 w.params).lookup 204 = some _)
  refine r_callCA R ho rfl rfl (codeRec_of (K := (hd.heap_1 w.params)) G.kin (by kernel_rfl)) G.top.nolimit (binds := [(Str.ofString "size", .int sz tz), (Str.ofString "heaps", .ref hl), (Str.ofString "boxes", .int bx tb)]) rfl rfl
    (by intro x hx; rcases List.mem_cons.mp hx with rfl | hx; exact .inr ⟨by with_unfolding_all rfl, by with_unfolding_all rfl⟩
        rcases List.mem_cons.mp hx with rfl | hx; exact .inl (by with_unfolding_all rfl)
        rcases List.mem_cons.mp hx with rfl | hx; exact .inl (by with_unfolding_all rfl)
        cases hx) g (show ([Str.ofString "size"] : List Str).Nodup by decide) rfl rfl rfl ?_
  clear ho
  intro A1 cells s1 R1 CA S1
  replace CA : CellsAre _ [(Str.ofString "size", s.heap.objs.size + 1)] cells := CA
  obtain ⟨oc, rfl, hoc⟩ := CA.one
  replace hoc : oc.data = .cell (some (.int sz tz)) := hoc
  replace S1 : Sat s.heap s.heap.objs.size (fun y => if y = Str.ofString "boxes" then some (.int bx tb) else if y = Str.ofString "heaps" then some (.ref hl) else none) [(s.heap.objs.size + 1, oc)] s.os s.drawn s1 := S1
  clear CA
  have hh1 := R1.hh
  dsimp only [newEnv]
  (repeat (tb_start; (try dsimp only)))
  refine r_comp (cl := [(Str.ofString "size", s.heap.objs.size + 1)]) (by with_unfolding_all rfl) (by decide) rfl (by decide) ?_
  (repeat (tb_start; (try dsimp only)))
  rename_i s2 S2
  have G2 := G.at S2
  have c2 : s2.heap.IsCell (s.heap.objs.size + 1) (some (.int sz tz)) := ⟨oc, S2.at (.head _), hoc⟩
  refine ⟨s.os, s.drawn, vs.length, _, (fun i ys news => news = [] ∧ IntsAre ys ((l.take i).map fun p => min sz p.1)), S2.gb, S2.os, S2.dr, by omega, itb_list hh1 (hli.at fun o e => S2.fr.keep _ o e), ⟨rfl, by simpa using IntsAre.nil⟩, ?_, ?_, ?_⟩
  · rintro i ys news ⟨-, h⟩
    have := ints_len h
    rw [List.length_map, List.length_take] at this
    omega
  · rintro i v ys m₁ news I oI D C s3 hi hv ⟨rfl, hI⟩ S3
    obtain ⟨p, hp, T', ta, tb', rfl, hT⟩ := hpr.nth i v hv
    refine r_asgP hh1 S3 (hT.at fun o e => S3.fr.keep _ o (S2.fr.keep _ o e)) ?_ (by with_unfolding_all rfl) (by with_unfolding_all rfl) (by with_unfolding_all rfl)
    intro s4 S4
    (repeat (tb_start; (try dsimp only)))
    refine ⟨_, [], _, by assumption, rfl, ?_⟩
    rw [take_step hp, List.map_append]
    exact ints_snoc hI _ _
  · rintro D ys news s' ⟨rfl, hI⟩ G'
    have S5 := S2.grow G'
    (repeat (tb_start; (try dsimp only)))
    refine r_sumL hh1 S5 ⟨_, S5.at (.head _), rfl, _, rfl⟩ hI ?_
    intro t1 s6 S6
    (repeat (tb_start; (try dsimp only)))
    refine r_mul S6 (.of_left (by decide)) ?_
    intro t2 s7 S7
    (repeat (tb_start; (try dsimp only)))
    rename_i t3 s8 S8
    refine k _ _ ⟨⟨t3, ?_⟩, S8.toExt⟩
    rw [slackF, hpr.len, List.take_length]

end
section
open PySem.Spec PySem.Calls
open PyProof.Rows.LCg (lst lst_snoc)
noncomputable def bestF (l : List (Int × Int)) (bx : Int) : List (Int × Int) → Int × Int → Int × Int
  | [], b => b
  | p :: r, b => bestF l bx r (if b.1 < p.1 ∧ p.2 = slackF p.1 l bx then p else b)
noncomputable def cutF (l : List (Int × Int)) (b : Int × Int) : List (Int × Int) := if b ∈ l then l.eraseIdx (l.idxOf b) else l
theorem cutF_len (l : List (Int × Int)) (b : Int × Int) : (cutF l b).length ≤ l.length := by
  unfold cutF
  split
  · rw [List.length_eraseIdx]; split <;> omega
  · exact Nat.le_refl _
noncomputable def stepF (l : List (Int × Int)) (k : Int) : List (Int × Int) :=
  cutF l (bestF l k l (0, 0)) ++ [((bestF l k l (0, 0)).1 + 1, slackF ((bestF l k l (0, 0)).1 + 1) (cutF l (bestF l k l (0, 0)) ++ [((bestF l k l (0, 0)).1 + 1, 0)]) (k + 1))]
noncomputable def rawF : List Nat → Nat → List (Int × Int) → List (Int × Int)
  | [], _, l => l
  | c :: r, k, l => rawF r (k + 1) (if c = 111 then stepF l k else l)
noncomputable def heapsF (l : List Nat) : List (Int × Int) := sortF (rawF l 0 [])
inductive Hj1 (hp : Addr) (l : List Nat) (tx : Tok) (i : Nat) (m : Str → Option Value) (M : List (Addr × Obj)) : Prop
  | mk (vs : List Value) (n : Nat) (li : List (Int × Int)) (h1 : m (Str.ofString "row") = some (.str (T l) tx)) (h2 : m (Str.ofString "heaps") = some (.ref hp)) (h3 : (hp, lsN vs n) ∈ M) (h4 : PrsM M vs li) (h5 : li.length ≤ i) (h6 : rawF (l.drop i) i li = rawF l 0 []) : Hj1 hp l tx i m M
inductive Hj2 (hp : Addr) (l : List Nat) (tx : Tok) (i : Nat) (t : Tok) (vs : List Value) (n : Nat) (li : List (Int × Int)) (I : Addr) (oI : Obj) (j : Nat) (m : Str → Option Value) (M : List (Addr × Obj)) : Prop
  | mk (h1 : m (Str.ofString "row") = some (.str (T l) tx)) (h2 : m (Str.ofString "heaps") = some (.ref hp)) (h3 : m (Str.ofString "k") = some (.int i t)) (h4 : (hp, lsN vs n) ∈ M) (h5 : PrsM M vs li) (h6 : (I, oI) ∈ M)
    (T' : Addr) (ta tb : Tok) (b : Int × Int) (h7 : m (Str.ofString "best") = some (.ref T')) (h8 : (T', tpN [.int (Prod.fst b) ta, .int b.2 tb]) ∈ M) (h9 : bestF li i (li.drop j) b = bestF li i li (0, 0)) : Hj2 hp l tx i t vs n li I oI j m M
inductive Hj3 (hp : Addr) (l : List Nat) (tx : Tok) (i : Nat) (t : Tok) (li : List (Int × Int)) (I : Addr) (oI : Obj) (T' : Addr) (ta tb : Tok) (b : Int × Int) (h₀ : Heap) (L : Addr) (o : OsState) (d : Drawn) (s' : Shared) : Prop
  | mk (m : Str → Option Value) (M : List (Addr × Obj)) (vs : List Value) (n : Nat) (S : Sat h₀ L m M o d s') (h1 : m (Str.ofString "row") = some (.str (T l) tx)) (h2 : m (Str.ofString "heaps") = some (.ref hp)) (h3 : m (Str.ofString "k") = some (.int i t)) (h4 : (hp, lsN vs n) ∈ M)
    (h5 : PrsM M vs (cutF li b)) (h6 : (I, oI) ∈ M) (h7 : m (Str.ofString "best") = some (.ref T')) (h8 : (T', tpN [.int (Prod.fst b) ta, .int b.2 tb]) ∈ M) : Hj3 hp l tx i t li I oI T' ta tb b h₀ L o d s'
set_option maxHeartbeats 4000000 in
theorem heaps_ok (w : World) (l : List Nat) (tx : Tok) (hl : l.length ≤ 60) (h4 : (rawF l 0 []).length ≤ 4) :
    Meet w 2 211 [.str (T l) tx] (fun _ => True) (fun v s s' => ∃ D e vs N, v = .ref D ∧ Grow s s' ((D, lsN vs e) :: N) ∧ PrsM ((D, lsN vs e) :: N) vs (heapsF l)) := by
  intro A s mean mg mb Q E R G g _ k
  have ho := G.kin 211 _ (rfl : (hd.heap_1 w.params).lookup 211 = some _)
  refine r_callA R ho rfl rfl (codeRec_of (K := (hd.heap_1 w.params)) G.kin (by kernel_rfl)) G.top.nolimit (binds := [(Str.ofString "row", .str (T l) tx)]) rfl (by decide) (locs rfl) g rfl rfl rfl ?_
  clear ho
  intro A1 s1 R1 S1
  have hh1 := R1.hh
  have hl' : l.length ≤ 1000 := by omega
  dsimp only [newEnv]
  (repeat (tb_start; (try dsimp only)))
  refine r_lstE (spliced_none ⟨by simp, _, _, _, _, _, _, S1, ?_⟩)
  intro hp s2 G2
  have S2 := S1.grow G2
  (repeat (tb_start; (try dsimp only)))
  refine r_forG ?_
  (repeat (tb_start; (try dsimp only)))
  rename_i r t1 t2 t3 s3 S3
  refine r_iterRG rfl hh1 S3 (.head _) (small_one (by decide) (by decide) (by omega) (by omega)) (n := l.length) (by rw [rangeSize_one]; split <;> omega)
    (fun i m M => Hj1 hp l tx i m M)
    ⟨[], 0, [], by tb_rel, by tb_rel, .tail _ (.head _), PrsM.nil, by simp, by simp⟩ ?_ ?_
  · rintro i t m₁ M₁ I oI s4 hi hK ⟨vs, n, li, mrow, mheaps, hmem, hpr, hlen, hraw⟩ S4
    have hd : rawF (l.drop i) i li = rawF (l.drop (i + 1)) (i + 1) (if l[i] = 111 then stepF li i else li) := by
      rw [List.drop_eq_getElem_cons hi, rawF]
    have e0 : (0 : Int) + (i : Nat) * 1 = i := by omega
    rw [e0]
    (repeat (tb_start; (try dsimp only)))
    refine r_itemT (by assumption) (j := i) (by omega) hi hl' ?_; intro _ _ _
    (repeat (tb_start; (try dsimp only)))
    split
    · rename_i hc
      have hc' : l[i] = 111 := by simpa using hc
      rw [if_pos hc'] at hd
      (repeat (tb_start; (try dsimp only)))
      refine r_tup ?_
      (repeat (tb_start; (try dsimp only)))
      refine ⟨by simp, _, _, _, _, _, _, by assumption, ?_⟩
      intro T0 s5 G5
      have S5 := Sat.grow (by assumption) G5
      (repeat (tb_start; (try dsimp only)))
      refine r_forG ?_
      (repeat (tb_start; (try dsimp only)))
      rename_i s6 S6
      refine r_iterLG hh1 S6 [(hp, lsN vs n)] ⟨_, S6.at (.tail _ (.tail _ hmem)), rfl, _, rfl⟩ (.inl ⟨_, .head _⟩)
        (fun j m M => Hj2 hp l tx i t vs n li I oI j m M)
        (fun j m M hJ p hp => by rw [List.mem_singleton.mp hp]; obtain ⟨-, -, -, hq⟩ := hJ; exact hq)
        ⟨by tb_rel, by tb_rel, by tb_rel, .tail _ (.tail _ hmem), hpr.sub fun q hq _ => .tail _ (.tail _ hq), .tail _ (.head _), T0, _, _, (0, 0), by tb_rel, .head _, by simp⟩ ?_ ?_
      · rintro j v m₂ M₂ I₂ oI₂ s7 hv hK₂ ⟨m1, m2, m3, hmem₂, hpr₂, hIm, T', ta, tb, b, m4, hT', hb⟩ S7
        obtain ⟨p, hp', TT, pa, pb, rfl, hTT⟩ := hpr₂.nth j v hv
        have hstep : bestF li i (li.drop j) b = bestF li i (li.drop (j + 1)) (if b.1 < p.1 ∧ p.2 = slackF p.1 li i then p else b) := by
          have hj : j < li.length := by
            rcases Nat.lt_or_ge j li.length with h | h
            · exact h
            · rw [List.getElem?_eq_none h] at hp'; cases hp'
          rw [List.getElem?_eq_getElem hj] at hp'
          rw [List.drop_eq_getElem_cons hj, bestF, Option.some.inj hp']
        refine r_asgP hh1 S7 ⟨_, S7.at (.tail _ hTT), rfl, 0, rfl⟩ ?_ (by with_unfolding_all rfl) (by with_unfolding_all rfl) (by with_unfolding_all rfl)
        intro s8 S8
        (repeat (tb_start; (try dsimp only)))
        refine r_item0 (by assumption) (.tail _ hT') ?_
        (repeat (tb_start; (try dsimp only)))
        split
        · rename_i hc1
          have hc1' : b.1 < p.1 := by simpa using hc1
          (repeat (tb_start; (try dsimp only)))
          refine ⟨⟨_, _, _, _, _, by assumption⟩, ?_⟩
          rename_i s9 S9
          refine slack_ok w _ _ hp vs li _ _ (by have := hpr.len; omega) A1 s9 mean mg mb _ _ R1 (G.at S9) S9.gb ⟨⟨_, S9.at (.tail _ hmem₂), rfl, _, rfl⟩, (hpr₂.sub (M' := (I₂, oI₂) :: M₂) fun q hq _ => .tail _ hq).at S9⟩ ?_
          rintro v2 s10 ⟨⟨t5, rfl⟩, X⟩
          have S10 := S9.ext X
          (repeat (tb_start; (try dsimp only)))
          split
          · rename_i hc2
            have hc2' : p.2 = slackF p.1 li i := by simpa using hc2
            rw [if_pos ⟨hc1', hc2'⟩] at hstep
            (repeat (tb_start; (try dsimp only)))
            refine r_tup ?_
            (repeat (tb_start; (try dsimp only)))
            refine ⟨by simp, _, _, _, _, _, _, by assumption, ?_⟩
            intro T6 s11 G11
            have S11 := Sat.grow (by assumption) G11
            (repeat (tb_start; (try dsimp only)))
            exact ⟨_, [_], M₂, by assumption, by tb_rel, by tb_rel, by tb_rel, .tail _ hmem₂, hpr₂.sub fun q hq _ => .tail _ hq, .tail _ hIm, T6, _, _, p, by tb_rel, .head _, by rw [← hstep]; exact hb⟩
          · rename_i hc2
            have hc2' : ¬ p.2 = slackF p.1 li i := by simpa using hc2
            rw [if_neg (fun h => hc2' h.2)] at hstep
            (repeat (tb_start; (try dsimp only)))
            exact ⟨_, [], M₂, by assumption, by tb_rel, by tb_rel, by tb_rel, hmem₂, hpr₂, hIm, T', ta, tb, b, by tb_rel, hT', by rw [← hstep]; exact hb⟩
        · rename_i hc1
          have hc1' : ¬ b.1 < p.1 := by simpa using hc1
          rw [if_neg (fun h => hc1' h.1)] at hstep
          (repeat (tb_start; (try dsimp only)))
          exact ⟨_, [], M₂, by assumption, by tb_rel, by tb_rel, by tb_rel, hmem₂, hpr₂, hIm, T', ta, tb, b, by tb_rel, hT', by rw [← hstep]; exact hb⟩
      · rintro m₂ M₂ s7 ⟨m1, m2, m3, hmem₂, hpr₂, hIm, T', ta, tb, b, m4, hT', hb⟩ S7
        rw [hpr₂.len, List.drop_length] at hb
        have hb' : b = bestF li i li (0, 0) := hb
        refine wpAny_execs_cons ?_
        refine wpAny_mono (Q := fun f s' => f = .next ∧ Hj3 hp l tx i t li I oI T' ta tb b s.heap s.heap.objs.size s.os s.drawn s') ?_ ?_ (fun _ _ h => h)
        · (repeat (tb_start; (try dsimp only)))
          refine r_inPr (by have := R1.uni; omega) ⟨_, S7.at hmem₂, rfl, _, rfl⟩ (hpr₂.at S7) (IsPrM.at (p := b) ⟨T', ta, tb, rfl, hT'⟩ S7) ?_
          (repeat (tb_start; (try dsimp only)))
          split
          · rename_i hc1
            have hc1' : b ∈ li := by simpa using hc1
            (repeat (tb_start; (try dsimp only)))
            refine r_lmeth PySem.F.slot_list_remove PySem.F.type_list_remove ?_ (by with_unfolding_all rfl) (by with_unfolding_all rfl) (by with_unfolding_all rfl) (by with_unfolding_all rfl) (by with_unfolding_all rfl)
            (repeat (tb_start; (try dsimp only)))
            refine ⟨hp, vs, n, rfl, S7.at hmem₂, ?_⟩
            (repeat (tb_start; (try dsimp only)))
            refine r_remPr (by have := R1.uni; omega) S7 hmem₂ hpr₂ ⟨T', ta, tb, rfl, hT'⟩ hc1' (by have := hpr.len; omega) ?_
            intro s9 n9 S9
            (repeat (tb_start; (try dsimp only)))
            refine ⟨rfl, _, _, _, _, S9, by tb_rel, by tb_rel, by tb_rel, chg_mem hmem₂, ?_, chg_off hIm (S7.other hIm hmem₂ fun e => hK.1 (by rw [e])), by tb_rel, chg_off hT' (S7.other hT' hmem₂ tp_ne_ls)⟩
            rw [cutF, if_pos hc1']
            exact (hpr₂.erase _).chg S7 hmem₂
          · rename_i hc1
            have hc1' : ¬ b ∈ li := by simpa using hc1
            (repeat (tb_start; (try dsimp only)))
            refine ⟨rfl, _, _, _, _, by assumption, m1, m2, m3, hmem₂, ?_, hIm, m4, hT'⟩
            rw [cutF, if_neg hc1']; exact hpr₂
        · rintro f s8 ⟨rfl, m₃, M₃, vs₃, n₃, S8, m1, m2, m3, hmem₃, hpr₃, hIm₃, m4, hT'₃⟩
          dsimp only
          (repeat (tb_start; (try dsimp only)))
          refine r_item0 (by assumption) hT'₃ ?_
          (repeat (tb_start; (try dsimp only)))
          refine r_lmeth PySem.F.slot_list_append PySem.F.type_list_append ?_ (by with_unfolding_all rfl) (by with_unfolding_all rfl) (by with_unfolding_all rfl) (by with_unfolding_all rfl) (by with_unfolding_all rfl)
          (repeat (tb_start; (try dsimp only)))
          refine ⟨hp, vs₃, n₃, rfl, Sat.at (by assumption) hmem₃, ?_⟩
          (repeat (tb_start; (try dsimp only)))
          refine r_tup ?_
          (repeat (tb_start; (try dsimp only)))
          refine r_lstE ?_
          (repeat (tb_start; (try dsimp only)))
          refine r_tup ?_
          (repeat (tb_start; (try dsimp only)))
          refine ⟨by simp, _, _, _, _, _, _, by assumption, ?_⟩
          intro Ta sa Ga
          have Sa := Sat.grow (by assumption) Ga
          (repeat (tb_start; (try dsimp only)))
          refine ⟨by simp, _, _, _, _, _, _, Sa, ?_⟩
          intro Lb sb Gb
          have Sb := Sat.grow Sa Gb
          (repeat (tb_start; (try dsimp only)))
          refine r_addL Sb ⟨_, Sb.at (.tail _ (.tail _ hmem₃)), rfl, _, rfl⟩ ⟨_, Sb.at (.head _), rfl, _, rfl⟩ ?_ ?_
          · have h1 := hpr₃.len; have h2 := cutF_len li b; simp only [List.length_singleton]; omega
          intro Db sd Gd
          have Sd := Sb.grow Gd
          (repeat (tb_start; (try dsimp only)))
          refine ⟨⟨_, _, _, _, _, by assumption⟩, ?_⟩
          rename_i se Se
          refine slack_ok w _ _ Db (vs₃ ++ [.ref Ta]) (cutF li b ++ [(b.1 + 1, 0)]) _ _ ?_ A1 se mean mg mb _ _ R1 (G.at Se) Se.gb ⟨⟨_, Se.at (.head _), rfl, _, rfl⟩, PrsM.at (PrsM.snoc (hpr₃.sub fun q hq _ => .tail _ (.tail _ (.tail _ hq))) (IsPrM.mk (p := (b.1 + 1, 0)) (.tail _ (.tail _ (.head _))))) Se⟩ ?_
          · have h1 := hpr₃.len; have h2 := cutF_len li b; simp only [List.length_append, List.length_singleton]; omega
          rintro v2 s10 ⟨⟨t5, rfl⟩, X⟩
          have S10 := Se.ext X
          (repeat (tb_start; (try dsimp only)))
          refine ⟨by simp, _, _, _, _, _, _, S10, ?_⟩
          intro Tn sn Gn
          have Sn := S10.grow Gn
          (repeat (tb_start; (try dsimp only)))
          obtain ⟨mm, M5, S5', hm5, hI5, hp5, hT5, q1, q2⟩ : ∃ mm M5, Sat s.heap s.heap.objs.size mm M5 s.os s.drawn sn ∧ (hp, lsN vs₃ n₃) ∈ M5 ∧ (I, oI) ∈ M5 ∧ PrsM M5 vs₃ (cutF li b) ∧ IsPrM M5 (.ref Tn) (b.1 + 1, slackF (b.1 + 1) (cutF li b ++ [(b.1 + 1, 0)]) ((i : Int) + 1)) ∧
              mm (Str.ofString "row") = some (.str (T l) tx) ∧ mm (Str.ofString "heaps") = some (.ref hp) :=
            ⟨_, _, Sn, .tail _ (.tail _ (.tail _ (.tail _ hmem₃))), .tail _ (.tail _ (.tail _ (.tail _ hIm₃))), hpr₃.sub fun q hq _ => .tail _ (.tail _ (.tail _ (.tail _ hq))), IsPrM.mk (.head _), by tb_rel, by tb_rel⟩
          refine r_appN S5' hm5 (by have h1 := hpr₃.len; have h2 := cutF_len li b; omega) ?_
          intro sf Sf
          (repeat (tb_start; (try dsimp only)))
          have hne : I ≠ hp := S5'.other hI5 hm5 fun e => hK.1 (by rw [e])
          obtain ⟨m', pre, post, Sg, rfl, hJ⟩ := turn_split (J := fun M => (hp, lsN (vs₃ ++ [.ref Tn]) (n₃ + 1)) ∈ M ∧ PrsM M (vs₃ ++ [.ref Tn]) (stepF li i)) Sf (chg_off hI5 hne) fun M₂ h => by
            refine ⟨h _ (chg_mem hm5) (Ne.symm hne), ?_⟩
            have e : stepF li i = cutF li b ++ [(b.1 + 1, slackF (b.1 + 1) (cutF li b ++ [(b.1 + 1, 0)]) ((i : Int) + 1))] := by rw [hb']; rfl
            rw [e]
            exact PrsM.split ((hp5.snoc hT5).chg S5' hm5) Sf (chg_off hI5 hne) hK.2 h
          refine ⟨m', pre, post, Sg, _, _, _, q1, q2, hJ.1, hJ.2, ?_, by rw [← hd]; exact hraw⟩
          have h2 := cutF_len li b
          rw [stepF, ← hb']; simp only [List.length_append, List.length_singleton]; omega
    · rename_i hc
      have hc' : l[i] ≠ 111 := by simpa using hc
      rw [if_neg hc'] at hd
      (repeat (tb_start; (try dsimp only)))
      exact ⟨_, [], M₁, by assumption, vs, n, li, by tb_rel, by tb_rel, hmem, hpr, by omega, by rw [← hd]; exact hraw⟩
  · rintro m₁ M₁ s4 ⟨vs, n, li, mrow, mheaps, hmem, hpr, hlen, hraw⟩ S4
    rw [List.drop_length] at hraw
    have hraw' : li = rawF l 0 [] := hraw
    (repeat (tb_start; (try dsimp only)))
    refine r_sorted S4 ⟨_, S4.at hmem, rfl, _, rfl⟩ hpr (by rw [hraw']; exact h4) ?_
    intro D e vs' s5 S5 hp5
    (repeat (tb_start; (try dsimp only)))
    exact k _ _ ⟨D, e, vs', M₁, rfl, S5.toGrow, by rw [heapsF, ← hraw']; exact hp5.sub fun q hq _ => .tail _ hq⟩

end
section
open PySem.Spec PySem.Calls
open PyProof.Rows.LCg (lst lst_snoc)
/-- a call's answer on a clean stack -/
noncomputable def MeetC (w : World) (b : Nat) (f : Addr) (args : List Value) (pre : Heap → Prop) (post : Value → Shared → Shared → Prop) : Prop :=
  ∀ (A : Around) (s : Shared) (mean : ExcName → Option Value) (mg mb : Str → Option Value) (Q E : Value → Shared → Prop), Room A b → Gl w mean mg mb s.heap → AllBare s.gens → pre s.heap →
    (∀ v s', post v s s' → Q v s') → wpC (model PySem.Challenge.rw_xo0031_01.row.prog w) A (call (.ref f) args) Q E s
noncomputable def SwapTo (bs c : Array UInt8) (j : Nat) : Prop := c.size = bs.size ∧ ∀ x, x < bs.size → bs.size - j ≤ x → c[x]? = bs[bs.size - 1 - x]?
theorem SwapTo.step {bs c : Array UInt8} {j : Nat} (h : SwapTo bs c j) (hj : j < bs.size) : SwapTo bs (c.setIfInBounds (bs.size - 1 - j) bs[j]) (j + 1) := by
  refine ⟨by simp [h.1], fun x hx hjx => ?_⟩
  rw [Array.getElem?_setIfInBounds]
  by_cases e : bs.size - 1 - j = x
  · rw [if_pos e, if_pos (by rw [h.1]; omega)]
    have : bs.size - 1 - x = j := by omega
    rw [this, Array.getElem?_eq_getElem hj]
  · rw [if_neg e]
    exact h.2 x hx (by omega)
theorem SwapTo.done {bs c : Array UInt8} (h : SwapTo bs c bs.size) : c = bs.reverse := by
  refine Array.ext (by simp [h.1]) fun i h1 h2 => ?_
  have hi : i < bs.size := by simpa using h2
  have := h.2 i hi (by omega)
  rw [Array.getElem?_eq_getElem h1, Array.getElem?_eq_getElem (by omega)] at this
  rw [Array.getElem_reverse]
  exact Option.some.inj this
set_option maxHeartbeats 4000000 in
theorem swap_ok (w : World) (bs : Array UInt8) (tb : Tok) (tn : Tok) (hn : bs.size ≤ 1000) (h1 : 1 ≤ bs.size) :
    MeetC w 1 192 [.bytes bs tb, .int bs.size tn] (fun _ => True) (fun v s s' => (∃ t, v = .bytes bs.reverse t) ∧ Ext s s') := by
  intro A s mean mg mb Q E R G g _ k
  have ho := G.kin 192 _ (rfl : (hd.heap_1 w.params).lookup 192 = some _)
  refine r_callX R ho rfl rfl (codeRec_of (K := (hd.heap_1 w.params)) G.kin (by kernel_rfl)) G.top.nolimit (binds := [(Str.ofString "data", .bytes bs tb), (Str.ofString "width", .int bs.size tn)]) rfl (by decide) (locs rfl) g rfl rfl rfl ?_
  clear ho
  intro A1 s1 R1 S1
  have hh1 := R1.hh
  dsimp only [newEnv]
  refine wpC_execs_cons ?_
  refine wpC_Assign_Name ?_ (by with_unfolding_all rfl)
  refine wpC_Call_Name ?_
  (repeat (tb_start; (try dsimp only)))
  refine wpC_callWith_type ?_ (by with_unfolding_all rfl) (by with_unfolding_all rfl)
  (repeat (tb_start; (try dsimp only)))
  refine r_lenB S1 hn ?_
  intro t2 s2 S2
  (repeat (tb_start; (try dsimp only)))
  refine ⟨trivial, ?_⟩
  refine call_ba hn S2.gb ?_
  intro D s3 G3
  have S3 := S2.grow G3
  (repeat (tb_start; (try dsimp only)))
  refine wpC_of ?_
  (repeat (tb_start; (try dsimp only)))
  refine r_forG ?_
  (repeat (tb_start; (try dsimp only)))
  refine r_lenB (by assumption) hn ?_
  intro t3 s4 S4
  (repeat (tb_start; (try dsimp only)))
  have hcp : Builtin.divisionGoesByPylong ((bs.size : Int) - 0) bs.size = false := by
    have : ((bs.size : Int) - 0).natAbs.log2 / 30 + 1 ≤ 100 := by
      have h : ((bs.size : Int) - 0).natAbs.log2 ≤ 1000 := Nat.le_trans (Nat.log2_le_self _) (by omega)
      omega
    unfold Builtin.divisionGoesByPylong
    dsimp only
    simp only [Bool.and_eq_false_iff]
    left
    refine decide_eq_false ?_
    split <;> simp at * <;> omega
  refine r_range3 (by assumption) (by omega) hcp ?_
  intro r u1 u2 u3 s5 S5
  (repeat (tb_start; (try dsimp only)))
  refine r_iterRG rfl hh1 S5 (.head _) ?_ (n := 1) ?_
    (fun i m M => m (Str.ofString "data") = some (.bytes bs tb) ∧ m (Str.ofString "width") = some (.int bs.size tn) ∧ m (Str.ofString "swapped_data") = some (.ref D) ∧ ∃ c, (D, baN c) ∈ M ∧ SwapTo bs c (i * bs.size))
    ⟨by tb_rel, by tb_rel, by tb_rel, _, .tail _ (.head _), by simp, fun x hx h => by omega⟩ ?_ ?_
  · unfold Builtin.Range.small Builtin.Range.rangeSize Builtin.Range.rangeFitsLong
    have e1 : ((bs.size : Int) - 0 - 1) / bs.size = 0 := Int.ediv_eq_zero_of_lt (by omega) (by omega)
    have h3 : (bs.size : Int) > 0 := by omega
    have h4 : (0 : Int) < bs.size := by omega
    rw [if_pos h3, if_pos h4, e1]
    simp only [Bool.and_eq_true, Bool.or_eq_true, decide_eq_true_eq, beq_iff_eq, if_pos h3]
    omega
  · unfold Builtin.Range.rangeSize
    have e1 : ((bs.size : Int) - 0 - 1) / bs.size = 0 := Int.ediv_eq_zero_of_lt (by omega) (by omega)
    have h3 : (bs.size : Int) > 0 := by omega
    have h4 : (0 : Int) < bs.size := by omega
    rw [if_pos h3, if_pos h4, e1]
    simp
  · rintro i ti m₁ M₁ I oI s6 hi hK ⟨m1, m2, m3, c, hc, hsw⟩ S6
    have hi0 : i = 0 := by omega
    subst hi0
    rw [show (0 : Int) + ((0 : Nat) : Int) * bs.size = 0 by simp]
    (repeat (tb_start; (try dsimp only)))
    refine r_forG ?_
    (repeat (tb_start; (try dsimp only)))
    rename_i r2 v1 v2 v3 s7 S7
    have hDI : D ≠ I := S6.off (pre := []) _ hc
    refine r_iterRG rfl hh1 S7 (.head _) (small_one (by decide) (by decide) (by omega) (by omega)) (n := bs.size) (by rw [rangeSize_one]; split <;> omega)
      (fun j m M => m (Str.ofString "data") = some (.bytes bs tb) ∧ m (Str.ofString "width") = some (.int bs.size tn) ∧ m (Str.ofString "swapped_data") = some (.ref D) ∧ m (Str.ofString "i") = some (.int 0 ti) ∧ (I, oI) ∈ M ∧ ∃ c, (D, baN c) ∈ M ∧ SwapTo bs c j)
      ⟨by tb_rel, by tb_rel, by tb_rel, by tb_rel, .tail _ (.head _), _, .tail _ (.tail _ hc), by simpa using hsw⟩ ?_ ?_
    · rintro j tj m₂ M₂ I₂ oI₂ s8 hj hK₂ ⟨m1, m2, m3, m4, hIm, c₂, hc₂, hsw₂⟩ S8
      have hDI₂ : D ≠ I₂ := S8.off (pre := []) _ hc₂
      have hII₂ : I ≠ I₂ := S8.off (pre := []) _ hIm
      rw [show (0 : Int) + (j : Nat) * 1 = j by omega]
      (repeat (tb_start; (try dsimp only)))
      refine wpAny_Assign_Subscript ?_ (by with_unfolding_all rfl)
      (repeat (tb_start; (try dsimp only)))
      refine r_itemB (by assumption) (j := j) (by omega) hj hn ?_ (by with_unfolding_all rfl) (by intro _; with_unfolding_all rfl)
      intro t9 s9 S9
      (repeat (tb_start; (try dsimp only)))
      rename_i s10 S10
      refine r_setba (by assumption) (k := bs.size - 1 - j) (.tail _ hc₂) (by omega) rfl (by rw [hsw₂.1]; omega) (by rw [hsw₂.1]; exact hn) (UInt8.toNat_lt _) ?_
      intro s11 S11
      (repeat (tb_start; (try dsimp only)))
      rw [chg_skip _ _ _ _ (Ne.symm hDI₂)] at S11
      refine ⟨_, [], _, S11, by tb_rel, by tb_rel, by tb_rel, by tb_rel, chg_off hIm hDI.symm, _, chg_mem hc₂, ?_⟩
      have := hsw₂.step hj
      rwa [show bs[j] = bs[j].toNat.toUInt8 by simp] at this
    · rintro m₂ M₂ s8 ⟨m1, m2, m3, m4, hIm, c₂, hc₂, hsw₂⟩ S8
      obtain ⟨m', pre, post, Sg, rfl, hJ⟩ := turn_split (J := fun M => (D, baN c₂) ∈ M) S8 hIm fun M₂ h => h _ hc₂ hDI
      (repeat (tb_start; (try dsimp only)))
      exact ⟨m', pre, post, Sg, m1, m2, m3, c₂, hJ, by simpa using hsw₂⟩
  · rintro m₁ M₁ s6 ⟨m1, m2, m3, c, hc, hsw⟩ S6
    rw [Nat.one_mul] at hsw
    have hd := hsw.done
    subst hd
    (repeat (tb_start; (try dsimp only)))
    refine r_bytesba S6 hc (by simpa using hn) ?_
    intro t9 s9 S9
    (repeat (tb_start; (try dsimp only)))
    exact k _ _ ⟨⟨t9, rfl⟩, S9.toExt⟩

end
section
open PySem.Spec PySem.Calls
open PyProof.Rows.LCg (lst lst_snoc)
theorem byte_rev {l : List Nat} (h : ∀ c ∈ l, c < 256) {i : Nat} {c : UInt8} (e : (byteArr (l.map fun c : Nat => (c : Int))).reverse[i]? = some c) : l.reverse[i]? = some c.toNat := by
  rw [← Array.getElem?_toList, Array.toList_reverse] at e
  unfold byteArr at e
  rw [List.map_map, ← List.map_reverse, List.getElem?_map] at e
  cases hq : l.reverse[i]? with
  | none => rw [hq] at e; cases e
  | some q =>
    rw [hq] at e
    have hm : q ∈ l := List.mem_reverse.mp (List.mem_of_getElem? hq)
    have := h q hm
    have e' := Option.some.inj e
    rw [← e']
    simp
    omega
set_option maxHeartbeats 4000000 in
theorem about_ok (w : World) (l : List Nat) (tx : Tok) (hl : l.length ≤ 1000) (h1 : 1 ≤ l.length) (h256 : ∀ c ∈ l, c < 256) :
    MeetC w 3 216 [.str (T l) tx] (fun _ => True) (fun v s s' => (∃ t, v = .str (T l.reverse) t) ∧ Ext s s') := by
  intro A s mean mg mb Q E R G g _ k
  have ho := G.kin 216 _ (rfl : (hd.heap_1 w.params).lookup 216 = some _)
  refine r_callX R ho rfl rfl (codeRec_of (K := (hd.heap_1 w.params)) G.kin (by kernel_rfl)) G.top.nolimit (binds := [(Str.ofString "row", .str (T l) tx)]) rfl (by decide) (locs rfl) g rfl rfl rfl ?_
  clear ho
  intro A1 s1 R1 S1
  have hh1 := R1.hh
  dsimp only [newEnv]
  refine wpC_execs_cons ?_
  refine wpC_Assign_Name ?_ (by with_unfolding_all rfl)
  refine wpC_Call_Name ?_
  (repeat (tb_start; (try dsimp only)))
  refine wpC_callWith_def (K := (hd.heap_1 w.params)) (by kernel_rfl) ?_ (by with_unfolding_all rfl) (by with_unfolding_all rfl)
  (repeat (tb_start; (try dsimp only)))
  refine r_comp (cl := []) (by with_unfolding_all rfl) (by decide) rfl (by decide) ?_
  (repeat (tb_start; (try dsimp only)))
  have G1 := G.at S1
  refine ⟨s.os, s.drawn, (T l).cps.size, _, (fun i ys news => news = [] ∧ IntsAre ys ((l.take i).map fun c : Nat => (c : Int))), S1.gb, S1.os, S1.dr, by show l.toArray.size ≤ _; simp; omega, itb_str hh1, ⟨rfl, by simpa using IntsAre.nil⟩, ?_, ?_, ?_⟩
  · rintro i ys news ⟨-, h⟩
    have := ints_len h
    rw [List.length_map, List.length_take] at this
    omega
  · rintro i v ys m₁ news I oI D C s3 hi ⟨c, u, hc, rfl⟩ ⟨rfl, hI⟩ S3
    have hc' : l[i]? = some c := by simpa [T] using hc
    refine r_asgN S3 ?_ (by with_unfolding_all rfl) (by with_unfolding_all rfl)
    intro s3' S3'
    (repeat (tb_start; (try dsimp only)))
    refine r_ord (by assumption) ?_
    intro t4 s4 S4
    refine ⟨_, [], _, S4, rfl, ?_⟩
    rw [take_step hc', List.map_append]
    exact ints_snoc hI _ _
  · rintro D ys news s' ⟨rfl, hI⟩ G'
    have hsz : (T l).cps.size = l.length := T_length l
    rw [hsz, List.take_length] at hI
    have S5 := S1.grow G'
    (repeat (tb_start; (try dsimp only)))
    refine r_bytesL hh1 S5 ⟨_, S5.at (.head _), rfl, _, rfl⟩ hI ?_ ?_ ?_
    · intro n hn
      obtain ⟨c, hc, rfl⟩ := List.mem_map.mp hn
      have := h256 c hc
      omega
    · rw [ints_len hI, List.length_map]; exact hl
    intro t6 s6 S6
    (repeat (tb_start; (try dsimp only)))
    rename_i t7 s7 S7
    have hbs : (byteArr (l.map fun c : Nat => (c : Int))).size = l.length := by rw [byteArr_size, List.length_map]
    refine ⟨(G.at S7).kin, ?_⟩
    rw [← hbs]
    refine swap_ok w (byteArr (l.map fun c : Nat => (c : Int))) t6 t7 (by omega) (by omega) A1 s7 mean mg mb _ _ (R1.less (by omega)) (G.at S7) S7.gb trivial ?_
    rintro v s8 ⟨⟨t8, rfl⟩, X⟩
    have S8 := S7.ext X
    (repeat (tb_start; (try dsimp only)))
    refine wpC_of ?_
    (repeat (tb_start; (try dsimp only)))
    with_reducible refine r_smeth PySem.F.slot_str_join PySem.F.type_str_join ?_ (by with_unfolding_all rfl) (by with_unfolding_all rfl) (by with_unfolding_all rfl) (by with_unfolding_all rfl) (by with_unfolding_all rfl)
    (repeat (tb_start; (try dsimp only)))
    refine ⟨_, _, rfl, ?_⟩
    (repeat (tb_start; (try dsimp only)))
    refine r_comp (cl := []) (by with_unfolding_all rfl) (by decide) rfl (by decide) ?_
    (repeat (tb_start; (try dsimp only)))
    rename_i s9 S9
    have G9 := G.at S9
    refine ⟨s.os, s.drawn, _, _, (fun i ys news => news = [] ∧ Sgs ys (l.reverse.take i)), S9.gb, S9.os, S9.dr, by rw [Array.size_reverse]; omega, itb_bytes hh1, ⟨rfl, by simpa using Sgs.nil⟩, ?_, ?_, ?_⟩
    · rintro i ys news ⟨-, h⟩
      have := h.len
      rw [List.length_take] at this
      omega
    · rintro i v ys m₁ news I oI D C sa hi ⟨c, u, hc, rfl⟩ ⟨rfl, hI⟩ Sa
      have hc' := byte_rev h256 hc
      refine r_asgN Sa ?_ (by with_unfolding_all rfl) (by with_unfolding_all rfl)
      intro sb Sb
      (repeat (tb_start; (try dsimp only)))
      refine r_chr (by have := c.toNat_lt; omega) (by assumption) ?_
      intro t4 sc Sc
      refine ⟨_, [], _, Sc, rfl, ?_⟩
      rw [take_step hc']
      exact hI.snoc _ _
    · rintro D2 ys news sa ⟨rfl, hI⟩ Ga
      have hsz2 : (byteArr (l.map fun c : Nat => (c : Int))).reverse.size = l.reverse.length := by rw [Array.size_reverse, hbs, List.length_reverse]
      rw [hsz2, List.take_length] at hI
      have Sa := S9.grow Ga
      (repeat (tb_start; (try dsimp only)))
      refine r_joinT Sa ⟨_, Sa.at (.head _), rfl, _, rfl⟩ hI (by rw [List.length_reverse]; exact hl) ?_
      intro tz sz Sz
      (repeat (tb_start; (try dsimp only)))
      exact k _ _ ⟨⟨tz, rfl⟩, Sz.toExt⟩

end
section
open PySem.Spec PySem.Calls
/-- an object's own names -/
noncomputable def getV (x : Str) (es : List DictEntry) : Option Value := (es.find? (·.key.isStr x)).map (·.val)
structure Own (es : List DictEntry) (f : Str → Option Value) (c : Nat) : Prop where
  get : ∀ x, getV x es = f x
  str : ∀ e ∈ es, ∃ nm t, e.key = .str nm t
  len : es.length ≤ c
theorem Own.nil : Own [] (fun _ => none) 0 := ⟨fun _ => rfl, (fun _ h => nomatch h), Nat.le_refl _⟩
theorem Own.look {es : List DictEntry} {f : Str → Option Value} {c : Nat} (D : Own es f c) (x : Str) : getL x es = some (f x) := by
  have h := D.get x
  unfold getV at h
  unfold getL
  cases e : es.find? (·.key.isStr x) with
  | some y => rw [e] at h; rw [← h]; rfl
  | none =>
    rw [e] at h
    have : es.any (·.refKey) = false := by
      rw [List.any_eq_false]
      intro y hy
      obtain ⟨nm, t, hk⟩ := D.str y hy
      simp [DictEntry.refKey, hk]
    rw [← h]; simp [this]
theorem putV (name : Str) (hsh : Int) (key v : Value) (hk : ∀ x, key.isStr x = (name == x)) : ∀ (es : List DictEntry), (∀ e ∈ es, ∃ nm t, e.key = .str nm t) →
    ∀ x, getV x (putL name hsh key v es) = if x = name then some v else getV x es
  | [], _, x => by
    unfold putL getV
    rw [List.find?_cons]
    simp only [hk]
    by_cases h : x = name
    · subst h; simp
    · rw [show (name == x) = false from by simpa using Ne.symm h]; simp [h]
  | e :: r, hs, x => by
    have ih := putV name hsh key v hk r (fun e he => hs e (.tail _ he)) x
    obtain ⟨nm, t, he⟩ := hs e (.head _)
    unfold putL
    by_cases h : e.key.isStr name = true
    · rw [if_pos h]
      rw [he] at h
      have hnm : nm = name := by simpa [Value.isStr] using h
      unfold getV
      rw [List.find?_cons, List.find?_cons]
      rw [he]
      show Option.map _ (match (nm == x) with | true => _ | false => _) = if x = name then _ else Option.map _ (match (nm == x) with | true => _ | false => _)
      subst hnm
      by_cases hx : x = nm
      · subst hx; simp
      · rw [show (nm == x) = false from by simpa using Ne.symm hx]; simp [hx]
    · rw [if_neg h]
      rw [he] at h
      have hnm : nm ≠ name := by simpa [Value.isStr] using h
      unfold getV at ih ⊢
      rw [List.find?_cons, List.find?_cons]
      rw [he]
      show Option.map _ (match (nm == x) with | true => _ | false => _) = if x = name then _ else Option.map _ (match (nm == x) with | true => _ | false => _)
      by_cases hx : nm = x
      · subst hx; simp [hnm]
      · rw [show (nm == x) = false from by simpa using hx]; exact ih
theorem putL_len (name : Str) (hsh : Int) (key v : Value) : ∀ (es : List DictEntry), (putL name hsh key v es).length ≤ es.length + 1
  | [] => by simp [putL]
  | e :: r => by have := putL_len name hsh key v r; unfold putL; split <;> simp; omega
theorem putL_str (name : Str) (hsh : Int) (tk : Tok) (v : Value) : ∀ (es : List DictEntry), (∀ e ∈ es, ∃ nm t, e.key = .str nm t) → ∀ e ∈ putL name hsh (.str name tk) v es, ∃ nm t, e.key = .str nm t
  | [], _ => fun e he => by rw [putL, List.mem_singleton] at he; subst he; exact ⟨_, _, rfl⟩
  | e :: r, hs => fun y hy => by
    unfold putL at hy
    split at hy
    · rcases List.mem_cons.mp hy with rfl | hy
      · exact hs e (.head _)
      · exact hs y (.tail _ hy)
    · rcases List.mem_cons.mp hy with rfl | hy
      · exact hs _ (.head _)
      · exact putL_str name hsh tk v r (fun e he => hs e (.tail _ he)) y hy
theorem Own.put {es : List DictEntry} {f : Str → Option Value} {c : Nat} (D : Own es f c) (name : Str) (hsh : Int) (tk : Tok) (v : Value) : Own (putL name hsh (.str name tk) v es) (fun y => if y = name then some v else f y) (c + 1) :=
  ⟨fun x => by rw [putV name hsh _ v (fun _ => rfl) es D.str x, D.get x], putL_str name hsh tk v es D.str, by have := putL_len name hsh (.str name tk) v es; have := D.len; omega⟩

theorem upd_of {M : List (Addr × Obj)} {dx : Addr} {ob ob' : Obj} (hm : (dx, ob) ∈ M) (nd : (M.map (·.1)).Nodup) : Upd dx ob ob' M (chg M dx ob') := by
  induction M with
  | nil => cases hm
  | cons p r ih =>
    rw [List.map_cons, List.nodup_cons] at nd
    rcases List.mem_cons.mp hm with rfl | hm'
    · have hr : ∀ q ∈ r, q.1 ≠ dx := fun q hq e => nd.1 (List.mem_map.mpr ⟨q, hq, e⟩)
      rw [chg_cons]
      have : chg r dx ob' = r := by
        unfold chg
        conv => rhs; rw [← List.map_id r]
        exact List.map_congr_left fun q hq => by simp [hr q hq]
      rw [this]
      exact .head hr
    · have hp : p.1 ≠ dx := fun e => nd.1 (List.mem_map.mpr ⟨_, hm', e.symm⟩)
      rw [chg_skip _ _ _ _ hp]
      exact .tail hp (ih hm' nd.2)

section
variable {prog : Program} {w : World} {A : Around} {E : Value → Shared → Prop} {s : Shared} {env : Env} {h₀ : Heap} {L : Addr} {m : Str → Option Value} {M : List (Addr × Obj)} {o : OsState} {d : Drawn} {mean : ExcName → Option Value} {mg mb : Str → Option Value} {b : Nat}

structure Inst (M : List (Addr × Obj)) (x dx C : Addr) (dt : Data) (f : Str → Option Value) (c : Nat) : Prop where
  ne : x ≠ dx
  no : notCls (⟨.ref C, some dx, dt, #[]⟩ : Obj) = true
  obj : (x, (⟨.ref C, some dx, dt, #[]⟩ : Obj)) ∈ M
  own : ∃ es n, (dx, dictOf es n) ∈ M ∧ Own es f c
theorem Inst.sub {M M' : List (Addr × Obj)} {x dx C : Addr} {dt : Data} {f : Str → Option Value} {c : Nat} (I : Inst M x dx C dt f c) (h : ∀ q ∈ M, q.1 = x ∨ q.1 = dx → q ∈ M') : Inst M' x dx C dt f c := by
  obtain ⟨es, n, hm, D⟩ := I.own
  exact ⟨I.ne, I.no, h _ I.obj (.inl rfl), es, n, h _ hm (.inr rfl), D⟩
theorem instAt (S : Sat h₀ L m M o d s) {x dx C : Addr} {dt : Data} {es : List DictEntry} {n : Nat} (hx : (x, (⟨.ref C, some dx, dt, #[]⟩ : Obj)) ∈ M) (hd : (dx, dictOf es n) ∈ M) (hno : notCls (⟨.ref C, some dx, dt, #[]⟩ : Obj) = true) :
    InstAt s.heap x ⟨.ref C, some dx, dt, #[]⟩ C (some (dictOf es n)) := ⟨S.at hx, rfl, hno, S.at hd⟩

theorem r_setA {x dx C : Addr} {dt : Data} {f : Str → Option Value} {c : Nat} {name : Str} {v : Value} {Q : Unit → Shared → Prop} (S : Sat h₀ L m M o d s) (X : (hd.heap_1 w.params).In h₀) (I : Inst M x dx C dt f c) (hz : c < 900)
    (k : ∀ M' s', Sat h₀ L m M' o d s' → Inst M' x dx C dt (fun y => if y = name then some v else f y) (c + 1) → (∀ q ∈ M, q.1 ≠ dx → q ∈ M') → Q () s')
    (hs : findIn (hd.heap_1 w.params) (.ref C) "__setattr__" = some (some (.builtin "object.__setattr__"))) (hp : plainOver (hd.heap_1 w.params) C = true) (ht : takerIn (hd.heap_1 w.params) C name = some none) (hh : hasDictIn (hd.heap_1 w.params) C = true) :
    wpAny (model prog w) A (setAttr (.ref x) name v) Q E s := by
  obtain ⟨es, n, hm, D⟩ := I.own
  refine set_dict S.fr X S.nw (instAt S I.obj hm I.no) rfl hs hp ht hh (by rw [D.look]; rfl) rfl (upd_of hm S.nd) (by have := (D.put name (PyData.keyHash w.params name) (s.toks + 1) v).len; omega) fun h' F' N' => ?_
  exact k _ _ ⟨F', N', by rw [chg_keys]; exact S.nd, S.gb, S.os, S.dr⟩ ⟨I.ne, I.no, chg_off I.obj I.ne, _, _, chg_mem hm, D.put _ _ _ _⟩ fun q hq hn => chg_off hq hn

theorem r_getA {x dx C : Addr} {dt : Data} {f : Str → Option Value} {c : Nat} {name : Str} {v : Value} {attr : Option Value} {expr : Bool} {Q : Value → Shared → Prop} (S : Sat h₀ L m M o d s) (X : (hd.heap_1 w.params).In h₀) (I : Inst M x dx C dt f c) (hv : f name = some v)
    (k : ∀ s', Sat h₀ L m M o d s' → Q v s')
    (hg : plainGet (hd.heap_1 w.params) C name = true) (hh : hasDictIn (hd.heap_1 w.params) C = true) (ha : findIn (hd.heap_1 w.params) (.ref C) name = some attr) (hn : noGet (hd.heap_1 w.params) attr = true) (hi : handedIn v = true) :
    wpAny (model prog w) A (getAttr (.ref x) name expr) Q E s := by
  obtain ⟨es, n, hm, D⟩ := I.own
  exact get_own S.fr X (instAt S I.obj hm I.no) hg hh ha hn (by rw [D.look, hv]) hi (k _ (S.tk _))

theorem r_methA {x dx C : Addr} {dt : Data} {f : Str → Option Value} {c : Nat} {name : Str} {fa : Addr} {pl : Sem Bool} {Q : Value × List Value → Shared → Prop} (S : Sat h₀ L m M o d s) (X : (hd.heap_1 w.params).In h₀) (I : Inst M x dx C dt f c) (hv : f name = none)
    (k : Q (.ref fa, [.ref x]) s) (hg : plainGet (hd.heap_1 w.params) C name = true) (hf : findIn (hd.heap_1 w.params) (.ref C) name = some (some (.ref fa))) (ht : isFn (hd.heap_1 w.params) (.ref fa) = true) :
    wpAny (model prog w) A (getMethod (.ref x) name pl) Q E s := by
  obtain ⟨es, n, hm, D⟩ := I.own
  exact method_inst S.fr X (instAt S I.obj hm I.no) hg hf ht (by rw [D.look, hv]) k

theorem r_meth {ob : Expr} {name : Str} {apos pos : Pos} {args : List Expr} {Q : Value → Shared → Prop}
    (h : wpAny (model prog w) A (eval ob env) (fun ov s₁ => ∀ pl, wpAny (model prog w) A (getMethod ov name pl) (fun p s₂ => wpAny (model prog w) A (callWith pos p.1 p.2 (backTo pos (starEach args env)) []) Q E s₂) E s₁) E s)
    (hbase : attributeBase ob name env (eval ob env) = eval ob env := by with_unfolding_all rfl)
    (hfew : ((backTo pos (starEach args env)).all (fun x => !x.1) && (backToKw pos (keywordEach [] env)).all (fun x => x.1.isSome)
      && decide (args.length + ([] : List Keyword).length + (if ([] : List Keyword).isEmpty then 0 else 1) < 30)) = true := by with_unfolding_all rfl)
    (hline : (apos.endLine == pos.line) = true := by rfl) :
    wpAny (model prog w) A (eval (.Call (.Attribute ob name apos) args [] pos) env) Q E s := by
  rw [arm_eval_Call, hbase]
  refine wpAny_bind (wpAny_mono h (fun ov s₁ h₁ => ?_) fun _ _ e => e)
  refine wpAny_bind (wpAny_standAt ?_)
  have hform : methodCallForm (args.length + ([] : List Keyword).length) (backTo pos (starEach args env)) (backToKw pos (keywordEach [] env)) = true := hfew
  have hpos : methodCallPos true ob env apos pos = pure pos := by unfold methodCallPos; simp [hline]
  unfold methodCall
  rw [hform]
  refine wpAny_bind (wpAny_holding (wpAny_mono (h₁ _) (fun p s₂ h₂ => ?_) fun _ _ e => e))
  exact wpAny_bind (wpAny_of_eq hpos h₂)

theorem Room.under {A : Around} {b : Nat} (R : Room A (b + 1)) (C : Addr) (vs : List Value) : Room (A.under (.builtin "type.__call__" ⟨.ref C :: vs, []⟩)) b := by
  refine ⟨R.hh, ?_, ?_⟩
  · rw [depth_under_make]; have := R.dep; omega
  · show A.units + (Code.builtin "type.__call__" ⟨.ref C :: vs, []⟩).cUnits + 100 * b < _
    have : (Code.builtin "type.__call__" ⟨.ref C :: vs, []⟩).cUnits ≤ 50 := by show (1 : Nat) ≤ 50; decide
    have := R.uni; omega

/-- a function, called as a code -/
theorem r_codeA {f : Addr} {fo : Obj} {fd : FuncData} {args : List Value} {binds : List (Str × Value)} {body : List Stmt} {Rt : Result → Shared → Prop}
    (R : Room A (b + 1)) (ho : s.heap.get? f = some fo) (hfo : fo.data = .func fd) (hb : fd.body = .stmts body) (hcd : s.heap.CodeRec fd.code fd.qualname) (hlim : s.heap.NoLimit)
    (hbind : bindArgs fd ⟨args, []⟩ = pure binds) (hc : ∀ x ∈ fd.scope.names, x.2 ≠ .cell) (hl : ∀ x ∈ binds, fd.scope.names.lookup x.1 = some .local) (g : AllBare s.gens)
    (hco : fd.scope.isCoroutine = false) (hgen : fd.scope.isGenerator = false) (hk : fd.scope.kind = .function)
    (k : ∀ A1 s', Room A1 b → Sat s.heap s.heap.objs.size (fun x => binds.reverse.lookup x) [] s.os s.drawn s' →
      wpAny (model prog w) A1 (execs body (newEnv fd.scope s.heap.objs.size fd.globals fd.closure (fd.qualname ++ ".<locals>.") (some f) fd.code none fd.builtins))
        (fun fl s'' => Rt (.ok (.ret (match fl with | .ret v => v | _ => .none))) s'') F0 s') :
    codeAny (model prog w) A (.call (.ref f) ⟨args, []⟩) Rt s := by
  refine codeAny_call_function (by have := R.dep; omega) ho hfo hco hgen hb hcd ?_
  rw [hbind]
  refine wpAny_pure (wpAny_newFunctionEnv hc hl (fun h' hn hsb => ?_) hk)
  refine ⟨hlim.fresh _ hsb, codeAny_func (wpAny_mono (k _ _ (R.deeper _) ⟨⟨hn, fun b o e => hsb.extBut b o (Nat.ne_of_lt (Heap.lt_size e)) (Heap.get?_push_of_some _ e), Nat.le_refl _⟩, News.nil, List.nodup_nil, g, rfl, rfl⟩) (fun _ _ h => h) fun _ _ h => h.elim)⟩

theorem r_mulL {l : Addr} {vs : List Value} {c : Nat} {i : Int} {u : Tok} {Q : Value → Shared → Prop} (S : Sat h₀ L m M o d s) (hm : (l, lsN vs c) ∈ M) (h0 : 0 ≤ i) (hi : i ≤ 1000) (hv : vs.length ≤ 1000)
    (k : ∀ D s', Grow s s' [(D, lsN (List.replicate i.toNat vs).flatten 0)] → Q (.ref D) s') : wpAny (model prog w) A (binaryOp .Mult (.ref l) (.int i u)) Q E s := by
  have hl := S.at hm
  have hsz : vs.toArray.size * i.toNat ≤ 1000 * 1000 := Nat.mul_le_mul (by simpa using hv) (by omega)
  refine wpAny_binaryOp_repeat_ref (T := "list") (U := "int") (by decide) ⟨_, hl, rfl⟩ (fun s' => typeIs_int s' i u) noFill_list_mul PySem.F.fills_int_mul PySem.F.slot_int_rmul repeat_list PySem.F.slot_int_index.lookup
    (call_meets PySem.F.slot_int_rmul (typeIs_int s i u) PySem.F.entry_int_rmul (PySem.F.args_int_rmul_2 _ _) (int___rmul___int_list i u l vs.toArray c)
      ⟨hl, rfl, ⟨_, hl, rfl⟩, call_meets PySem.F.slot_list_mul ⟨_, hl, rfl⟩ PySem.F.entry_list_mul (PySem.F.args_list_mul_2 _ _)
        (AutoListH.list___mul___list_int_3 l vs.toArray c i u (by simp [Builtin.List.listFitsIndex]; omega) (by omega) (by simp [Builtin.List.listTooLong, sizeLine] at hsz ⊢; omega))
        ⟨hl, ?_⟩⟩)
  rw [listMul_foldl_if]
  exact k _ _ (S.newly _ rfl)
end

end
section
open PySem.Spec PySem.Calls
section
variable {prog : Program} {w : World} {A : Around} {E : Value → Shared → Prop} {s : Shared} {env : Env} {h₀ : Heap} {L : Addr} {m : Str → Option Value} {M : List (Addr × Obj)} {o : OsState} {d : Drawn} {mean : ExcName → Option Value} {mg mb : Str → Option Value} {b : Nat}

noncomputable abbrev keysOf (H : List (Addr × Obj)) : List Addr := H.map (·.1)
theorem Sat.hid {H : List (Addr × Obj)} (S : Sat h₀ L m (H ++ M) o d s) : ∀ b o, h₀.get? b = some o → (hideAll s.heap (keysOf H)).get? b = some o := fun b ob e =>
  hideAll_get _ (S.fr.keep b ob e) fun hb => by
    obtain ⟨p, hp, rfl⟩ := List.mem_map.mp hb
    have := (S.nw p (List.mem_append.mpr (.inl hp))).2.2
    rw [e] at this; cases this
theorem Gl.hid {H : List (Addr × Obj)} (G : Gl w mean mg mb h₀) (S : Sat h₀ L m (H ++ M) o d s) : Gl w mean mg mb (hideAll s.heap (keysOf H)) := G.keeps S.hid
theorem Sat.seen {H : List (Addr × Obj)} (S : Sat h₀ L m (H ++ M) o d s) {p : Addr × Obj} (hp : p ∈ M) : (hideAll s.heap (keysOf H)).get? p.1 = some p.2 := by
  refine hideAll_get _ (S.nw p (List.mem_append.mpr (.inr hp))).1 fun hb => ?_
  obtain ⟨q, hq, e⟩ := List.mem_map.mp hb
  have h := S.nd
  rw [List.map_append, List.nodup_append] at h
  exact h.2.2 _ (List.mem_map_of_mem hq) _ (List.mem_map_of_mem hp) e
theorem Sat.back {s'' : Shared} {H M' : List (Addr × Obj)} {L' : Addr} {m' : Str → Option Value} (S : Sat h₀ L m (H ++ M) o d s) (S' : Sat (hideAll s.heap (keysOf H)) L' m' M' s.os s.drawn s'') : Sat h₀ L m (M' ++ M) o d s'' := by
  have hL : L ∉ keysOf H := fun hb => by
    obtain ⟨p, hp, e⟩ := List.mem_map.mp hb
    exact (S.nw p (List.mem_append.mpr (.inl hp))).2.1 e
  have hns : ∃ oL, (hideAll s.heap (keysOf H)).get? L = some oL := by
    obtain ⟨oL, _, _, e, _⟩ := S.fr.ns
    exact ⟨oL, hideAll_get _ e hL⟩
  refine ⟨⟨S.fr.ns.at' fun ob e => S'.fr.keep _ ob (hideAll_get _ e hL), fun b ob e => S'.fr.keep b ob (S.hid b ob e), S.fr.above⟩, fun p hp => ?_, ?_, S'.gb, S'.os.trans S.os, S'.dr.trans S.dr⟩
  · rcases List.mem_append.mp hp with hp | hp
    · obtain ⟨e1, e2, e3⟩ := S'.nw p hp
      refine ⟨e1, fun e => ?_, ?_⟩
      · obtain ⟨oL, hoL⟩ := hns
        rw [e, hoL] at e3; cases e3
      · cases q : h₀.get? p.1 with
        | none => rfl
        | some ob => rw [S.hid _ _ q] at e3; cases e3
    · have hq := S.nw p (List.mem_append.mpr (.inr hp))
      exact ⟨S'.fr.keep _ _ (S.seen hp), hq.2⟩
  · rw [List.map_append, List.nodup_append]
    have h := S.nd
    rw [List.map_append, List.nodup_append] at h
    refine ⟨S'.nd, h.2.1, fun a ha c hc e => ?_⟩
    obtain ⟨p, hp, rfl⟩ := List.mem_map.mp ha
    obtain ⟨q, hq, rfl⟩ := List.mem_map.mp hc
    have := (S'.nw p hp).2.2
    rw [e, S.seen hq] at this; cases this

/-- a function, called as a code, with objects of the caller's that it may change -/
theorem r_codeH {H : List (Addr × Obj)} {f : Addr} {fo : Obj} {fd : FuncData} {args : List Value} {binds : List (Str × Value)} {body : List Stmt} {Rt : Result → Shared → Prop}
    (R : Room A (b + 1)) (S : Sat h₀ L m (H ++ M) o d s) (G : Gl w mean mg mb h₀) (ho : s.heap.get? f = some fo) (hfo : fo.data = .func fd) (hb : fd.body = .stmts body) (hcd : s.heap.CodeRec fd.code fd.qualname)
    (hbind : bindArgs fd ⟨args, []⟩ = pure binds) (hc : ∀ x ∈ fd.scope.names, x.2 ≠ .cell) (hl : ∀ x ∈ binds, fd.scope.names.lookup x.1 = some .local)
    (hco : fd.scope.isCoroutine = false) (hgen : fd.scope.isGenerator = false) (hk : fd.scope.kind = .function)
    (k : ∀ A1 s', Room A1 b → Gl w mean mg mb (hideAll s.heap (keysOf H)) → Sat (hideAll s.heap (keysOf H)) s.heap.objs.size (fun x => binds.reverse.lookup x) H s.os s.drawn s' →
      wpAny (model prog w) A1 (execs body (newEnv fd.scope s.heap.objs.size fd.globals fd.closure (fd.qualname ++ ".<locals>.") (some f) fd.code none fd.builtins))
        (fun fl s'' => Rt (.ok (.ret (match fl with | .ret v => v | _ => .none))) s'') F0 s') :
    codeAny (model prog w) A (.call (.ref f) ⟨args, []⟩) Rt s :=
  r_codeA R ho hfo hb hcd (G.top.nolimit.keeps S.fr.keep) hbind hc hl S.gb hco hgen hk fun A1 s' R1 S1 => k A1 s' R1 (G.hid S) <| by
    refine ⟨⟨S1.fr.ns, fun b ob e => S1.fr.keep b ob (of_hideAll _ e), by rw [hideAll_size]; exact S1.fr.above⟩, fun p hp => ?_, ?_, S1.gb, S1.os, S1.dr⟩
    · have e := (S.nw p (List.mem_append.mpr (.inl hp))).1
      exact ⟨S1.fr.keep _ _ e, Nat.ne_of_lt (Heap.lt_size e), hideAll_none _ (List.mem_map_of_mem hp)⟩
    · have h := S.nd
      rw [List.map_append, List.nodup_append] at h
      exact h.1

/-- an object of a class with __init__ of the text's own -/
theorem r_make {C fI : Addr} {args : List Value} {Q : Value → Shared → Prop} (S : Sat h₀ L m M o d s) (G : Gl w mean mg mb h₀) (hm : makesIn (hd.heap_1 w.params) C = true) (hi : findIn (hd.heap_1 w.params) (.ref C) "__init__" = some (some (.ref fI))) (hf : isFn (hd.heap_1 w.params) (.ref fI) = true)
    (k : ∀ x dx s', Sat h₀ L m ([(x, (⟨.ref C, some dx, .plain, #[]⟩ : Obj)), (dx, dictOf [] 0)] ++ M) o d s' → s'.os = s.os → s'.drawn = s.drawn → x ≠ dx →
      codeAny (model prog w) (A.under (.builtin "type.__call__" ⟨.ref C :: args, []⟩)) (.call (.ref fI) ⟨.ref x :: args, []⟩) (fun r s'' => r = .ok (.ret .none) ∧ Q (.ref x) s'') s') :
    wpAny (model prog w) A (call (.ref C) args) Q E s := by
  refine call_cls S.fr G.kin S.nw hm hi hf fun x dx h' F' N' hlt hdx => ?_
  have hne : x ≠ dx := Ne.symm (Nat.ne_of_lt hdx)
  refine codeAny_mono (k x dx { s with heap := h' } ⟨F', N', ?_, S.gb, S.os, S.dr⟩ rfl rfl hne) fun r s'' hr => ?_
  · show (x :: dx :: M.map (·.1)).Nodup
    rw [List.nodup_cons, List.nodup_cons]
    refine ⟨fun h => ?_, fun h => ?_, S.nd⟩
    · rcases List.mem_cons.mp h with h | h
      · exact hne h
      · obtain ⟨p, hp, e⟩ := List.mem_map.mp h
        exact absurd (Nat.lt_trans (hlt p hp) hdx) (by rw [e]; exact Nat.lt_irrefl _)
    · obtain ⟨p, hp, e⟩ := List.mem_map.mp h
      exact absurd (hlt p hp) (by rw [e]; exact Nat.lt_irrefl _)
  · obtain ⟨rfl, hq⟩ := hr
    exact ⟨rfl, hq⟩
end

end
section
open PySem.Spec PySem.Calls
section
variable {prog : Program} {w : World} {A : Around} {E : Value → Shared → Prop} {s : Shared} {env : Env} {h₀ : Heap} {L : Addr} {m : Str → Option Value} {M : List (Addr × Obj)} {o : OsState} {d : Drawn} {mean : ExcName → Option Value} {mg mb : Str → Option Value} {b : Nat}
theorem r_unpI {t : Addr} {x y : Value} {Q : List Value → Shared → Prop} (hh : A.handled = none) (S : Sat h₀ L m M o d s) (ht : (t, tpN [x, y]) ∈ M) (k : ∀ s', Sat h₀ L m M o d s' → Q [x, y] s') :
    wpAny (model prog w) A (unpackItems (.ref t) 2 none) Q E s := by
  refine unpackItems_tuple (items := #[x, y]) hh ⟨_, S.at ht, rfl, 0, rfl⟩ fun h' he => k _ (S.kept (tk := s.toks) fun b ob e => he b ob (Nat.ne_of_lt (Heap.lt_size e)) e)
theorem r_lenL {l : Addr} {vs : List Value} {Q : Value → Shared → Prop} (S : Sat h₀ L m M o d s) (hl : s.heap.IsList l vs.toArray) (hz : vs.length ≤ 100000) (k : ∀ t s', Sat h₀ L m M o d s' → Q (.int vs.length t) s') :
    wpAny (model prog w) A (call (.builtin "len") [.ref l]) Q E s := by
  refine Calls.call_len_list hl (by rw [List.size_toArray]; omega) ?_
  rw [List.size_toArray]
  exact k _ _ (S.tk _)
theorem r_itemL {value slice : Expr} {l : Addr} {vs : List Value} {i : Int} {j : Nat} {u : Tok} {x : Value} {Q : Value → Shared → Prop} (hl : s.heap.IsList l vs.toArray) (hi : i = j) (hz : vs.length ≤ 100000) (hx : vs[j]? = some x) (k : Q x s)
    (hs : subscripted slice false (.ref l) (.int i u) = operate [.ref l, .int i u] (getItem (.ref l) (.int i u)) := by with_unfolding_all rfl) (hg : ∀ r, letTemporaryGo value (.ref l) r = pure () := by intro _; with_unfolding_all rfl) :
    wpAny (model prog w) A (subscriptTail value slice (.ref l) (.int i u)) Q E s := by
  subst hi
  have hj : j < vs.length := by
    rcases Nat.lt_or_ge j vs.length with h | h
    · exact h
    · rw [List.getElem?_eq_none h] at hx; cases hx
  exact item_listL hl (by omega) (by omega) (by rw [Int.toNat_natCast]; exact hx) k hs hg
theorem r_setL {l : Addr} {vs : List Value} {n : Nat} {i : Int} {j : Nat} {u : Tok} {v : Value} {Q : Unit → Shared → Prop} (S : Sat h₀ L m M o d s) (hm : (l, lsN vs n) ∈ M) (hi : i = j) (hj : j < vs.length) (hz : vs.length ≤ 100000)
    (k : ∀ n' s', Sat h₀ L m (chg M l (lsN (vs.set j v) n')) o d s' → Q () s') : wpAny (model prog w) A (setItem (.ref l) (.int i u) v) Q E s := by
  subst hi
  refine ki_setAt (S.at hm) (by omega) (by omega) (by simp; omega) ?_
  have e : Obj.mapSeq (fun x => x.setIfInBounds ((j : Int)).toNat v) (lsN vs n) = lsN (vs.set j v) n := by simp [Obj.mapSeq]
  refine k n _ (S.chg hm (Heap.SameBut.update ..) ?_ s.toks)
  rw [← e]
  exact Heap.get?_update_self _ (S.at hm) (by rw [e]; rfl)
theorem r_tupL {l : Addr} {vs : List Value} {Q : Value → Shared → Prop} (S : Sat h₀ L m M o d s) (hl : s.heap.IsList l vs.toArray) (hz : vs.length ≤ 100000) (k : ∀ T s', Grow s s' [(T, tpN vs)] → Q (.ref T) s') :
    wpAny (model prog w) A (call (.type "tuple") [.ref l]) Q E s := by
  refine call_tuple_list hl (fun h' hk => ?_) (by rw [List.size_toArray, sizeLine_eq]; omega)
  refine k _ _ ⟨fun b ob e => Heap.get?_push_of_some _ (hk b ob e), fun p hp => ?_, by simp, S.gb, rfl, rfl⟩
  rw [List.mem_singleton.mp hp]
  refine ⟨Heap.get?_push_size _ rfl, ?_⟩
  cases q : s.heap.get? h'.objs.size with
  | none => rfl
  | some ob => exact absurd (Heap.lt_size (hk _ _ q)) (Nat.lt_irrefl _)
theorem ge_intR {a b : Int} {t u : Tok} {Q : Value → Shared → Prop} (h : Q (.bool (decide (b ≤ a))) s) : wpAny (model prog w) A (compareOp .GtE (.int a t) (.int b u)) Q E s := PySem.P.ge_int h
theorem le_intR {a b : Int} {t u : Tok} {Q : Value → Shared → Prop} (h : Q (.bool (decide (a ≤ b))) s) : wpAny (model prog w) A (compareOp .LtE (.int a t) (.int b u)) Q E s := PySem.P.le_int h
end

end
local macro_rules | `(tactic| tb_start) => `(tactic| first
  | with_reducible refine ge_intR ?_
  | with_reducible refine le_intR ?_
  | with_reducible refine Attribute_any_ ?_
  | with_reducible refine plainObj_wpAny_Assign_Attribute ?_ (by with_unfolding_all rfl)
  | with_reducible refine wpAny_assignInOrder_more ?_
  | with_reducible refine wpAny_assignInOrder_none ?_
  | with_reducible refine PyProof.Rows.bindName_ ?_
  | with_reducible refine wpAny_Break ?_)

section
open PySem.Spec PySem.Calls
open PyProof.Rows.LCg (lst lst_snoc)
noncomputable def tokOf : Option CFound → Tok
  | some (.val (.str _ t)) => t
  | _ => 0
theorem ws_S (w : World) : findCls (hd.heap_1 w.params) (.ref 181) (.type "type") "S" = some (.val (.str (T [32]) (tokOf (findCls (hd.heap_1 w.params) (.ref 181) (.type "type") "S")))) := by kernel_rfl
theorem ws_T (w : World) : findCls (hd.heap_1 w.params) (.ref 181) (.type "type") "T" = some (.val (.str (T [9]) (tokOf (findCls (hd.heap_1 w.params) (.ref 181) (.type "type") "T")))) := by kernel_rfl
theorem ws_reads (w : World) : readsIn (hd.heap_1 w.params) 181 (.type "type") = true := by kernel_rfl
structure Ws where
  b : Nat
  n : Int
  nt : Int
  cnt : List Int
noncomputable def growF (cnt : List Int) (b : Nat) : List Int := if cnt.length ≤ b then cnt ++ List.replicate (b + 1 - cnt.length) 0 else cnt
noncomputable def bumpF (cnt : List Int) (b : Nat) : List Int := (growF cnt b).set b ((growF cnt b).getD b 0 + 1)
noncomputable def wsF : List Nat → Ws → Ws
  | [], st => st
  | c :: r, st => if c = 32 then wsF r ⟨st.b + 1, st.n + 1, st.nt, st.cnt⟩ else if c = 9 then wsF r ⟨0, st.n + 1, st.nt + 1, bumpF st.cnt st.b⟩ else st
theorem ints_at' {vs : List Value} {ns : List Int} (h : IntsAre vs ns) {i : Nat} {n : Int} (e : ns[i]? = some n) : ∃ t, vs[i]? = some (.int n t) := by
  have hi : i < vs.length := by
    rw [ints_len h]
    rcases Nat.lt_or_ge i ns.length with h | h
    · exact h
    · rw [List.getElem?_eq_none h] at e; cases e
  obtain ⟨n', t, hv, hn⟩ := ints_at h (List.getElem?_eq_getElem hi)
  rw [e] at hn; cases hn
  exact ⟨t, by rw [List.getElem?_eq_getElem hi, hv]⟩
theorem ints_rep (k : Nat) (t : Tok) : IntsAre (List.replicate k (.int 0 t)) (List.replicate k 0) := by
  induction k with
  | zero => exact .nil
  | succ k ih => exact .cons 0 t ih
theorem ints_set {vs : List Value} {ns : List Int} (h : IntsAre vs ns) : ∀ (i : Nat) (n : Int) (t : Tok), IntsAre (vs.set i (.int n t)) (ns.set i n) := by
  induction h with
  | nil => intro i n t; exact .nil
  | cons a u _ ih =>
    intro i n t
    cases i with
    | zero => exact .cons n t (by assumption)
    | succ i => exact .cons a u (ih i n t)
theorem Sat.off1 {h₀ : Heap} {L : Addr} {m : Str → Option Value} {M : List (Addr × Obj)} {o : OsState} {d : Drawn} {s : Shared} {I : Addr} {oI : Obj} (S : Sat h₀ L m ((I, oI) :: M) o d s) {p : Addr × Obj} (h : p ∈ M) : p.1 ≠ I := fun e => by
  have q := S.nd
  rw [List.map_cons, List.nodup_cons] at q
  exact q.1 (List.mem_map.mpr ⟨p, h, e⟩)
theorem growF_len (cnt : List Int) (b : Nat) : b < (growF cnt b).length := by
  unfold growF; split
  · rw [List.length_append, List.length_replicate]; omega
  · omega
theorem growF_le (cnt : List Int) (b : Nat) : (growF cnt b).length ≤ max cnt.length (b + 1) := by
  unfold growF; split
  · rw [List.length_append, List.length_replicate]; omega
  · omega
theorem bumpF_len (cnt : List Int) (b : Nat) : (bumpF cnt b).length = (growF cnt b).length := by unfold bumpF; rw [List.length_set]
inductive WsJ (x dx : Addr) (st : Ws) (m : Str → Option Value) (M : List (Addr × Obj)) : Prop
  | mk (cp : Addr) (vs : List Value) (n : Nat) (tS tT tb tn tt : Tok) (f : Str → Option Value) (c : Nat) (bi : Int) (h1 : m (Str.ofString "self") = some (.ref x)) (h2 : m (Str.ofString "S") = some (.str (T [32]) tS)) (h3 : m (Str.ofString "T") = some (.str (T [9]) tT))
    (h4 : m (Str.ofString "count") = some (.ref cp)) (h5 : m (Str.ofString "b") = some (.int bi tb)) (h6 : m (Str.ofString "n") = some (.int st.n tn)) (h7 : m (Str.ofString "nt") = some (.int st.nt tt)) (h8 : (cp, lsN vs n) ∈ M) (h9 : IntsAre vs st.cnt)
    (h10 : st.b ≤ 200) (h11 : st.cnt.length ≤ 201) (h12 : Inst M x dx 181 .plain f c) (h13 : c ≤ 10) (h14 : f "longest_run_of_spaces" = none) (h15 : bi = (st.b : Int)) : WsJ x dx st m M
set_option maxHeartbeats 4000000 in
theorem r_ws {w : World} {A : Around} {E : Value → Shared → Prop} {s : Shared} {h₀ : Heap} {L : Addr} {m : Str → Option Value} {M : List (Addr × Obj)} {o : OsState} {d : Drawn} {mean : ExcName → Option Value} {mg mb : Str → Option Value} {l : List Nat} {tx : Tok} {Q : Value → Shared → Prop}
    (R : Room A 4) (S : Sat h₀ L m M o d s) (G : Gl w mean mg mb h₀) (hl : l.length ≤ 200)
    (k : ∀ x dx f c s' N T1 T2 t1 t2 vs, Sat h₀ L m (N ++ M) o d s' → Inst N x dx 181 .plain f c → f "nt" = some (.int (wsF l ⟨0, 0, 0, []⟩).nt t1) → f "norm" = some (.ref T1) →
      (T1, tpN [.ref T2, .int (wsF l ⟨0, 0, 0, []⟩).b t2]) ∈ N → (T2, tpN vs) ∈ N → IntsAre vs (wsF l ⟨0, 0, 0, []⟩).cnt → f "longest_run_of_spaces" = none → Q (.ref x) s') :
    wpAny (model PySem.Challenge.rw_xo0031_01.row.prog w) A (call (.ref 181) [.str (T l) tx]) Q E s := by
  refine r_make (fI := 136) S G (by kernel_rfl) (by kernel_rfl) (by kernel_rfl) fun x dx s1 S1 ho1 hd1 hne => ?_
  have R1 := (Room.under (b := 3) R 181 [.str (T l) tx])
  have ho := S1.fr.keep _ _ (G.kin 136 _ (rfl : (hd.heap_1 w.params).lookup 136 = some _))
  refine r_codeH R1 S1 G ho rfl rfl (codeRec_of (K := (hd.heap_1 w.params)) (G.kin.keeps S1.fr.keep) (by kernel_rfl)) (binds := [(Str.ofString "self", .ref x), (Str.ofString "ws", .str (T l) tx)]) rfl (by decide) (locs rfl) rfl rfl rfl ?_
  clear ho
  intro A1 s2 R2 G2 S2
  have hh1 := R2.hh
  dsimp only [newEnv]
  have I0 : Inst [(x, (⟨.ref 181, some dx, .plain, #[]⟩ : Obj)), (dx, dictOf [] 0)] x dx 181 .plain (fun _ => none) 0 := ⟨hne, rfl, .head _, _, _, .tail _ (.head _), Own.nil⟩
  (repeat (tb_start; (try dsimp only)))
  refine r_setA (by assumption) G2.kin I0 (by decide) ?_ (by kernel_rfl) (by kernel_rfl) (by kernel_rfl) (by kernel_rfl)
  intro M3 s3 S3 I3 hM3
  (repeat (tb_start; (try dsimp only)))
  refine Assign_Tuple_swapped (names := [Str.ofString "S", Str.ofString "T"]) ?_ (by with_unfolding_all rfl) (by with_unfolding_all rfl)
  (repeat (tb_start; (try dsimp only)))
  refine r_tup ?_
  (repeat (tb_start; (try dsimp only)))
  refine cls_val (mc := .type "type") S3.fr G2.kin (by kernel_rfl) (ws_reads w) (ws_S w) rfl ?_
  have S4 := S3.tk (s3.toks + 1)
  (repeat (tb_start; (try dsimp only)))
  refine cls_val (mc := .type "type") S4.fr G2.kin (by kernel_rfl) (ws_reads w) (ws_T w) rfl ?_
  have S5 := S4.tk (s3.toks + 1 + 1)
  (repeat (tb_start; (try dsimp only)))
  refine ⟨by simp, _, _, _, _, _, _, S5, ?_⟩
  intro T0 s6 G6
  have S6 := S5.grow G6
  refine r_unpI hh1 S6 (.head _) fun s7 S7 => ?_
  dsimp only [List.reverse, List.reverseAux, List.map]
  (repeat (tb_start; (try dsimp only)))
  refine r_lstE ?_
  (repeat (tb_start; (try dsimp only)))
  refine ⟨by simp, _, _, _, _, _, _, by assumption, ?_⟩
  intro cp s8 G8
  have S8 := Sat.grow (by assumption) G8
  (repeat (tb_start; (try dsimp only)))
  refine wpAny_Assign_three ?_ (by with_unfolding_all rfl) (by with_unfolding_all rfl)
  (repeat (tb_start; (try dsimp only)))
  rename_i s9 S9
  refine wpAny_mono (Q := fun fl s' => fl = .next ∧ ∃ m M, Sat (hideAll s1.heap (keysOf [(x, (⟨.ref 181, some dx, .plain, #[]⟩ : Obj)), (dx, dictOf [] 0)])) s1.heap.objs.size m M s1.os s1.drawn s' ∧ WsJ x dx (wsF l ⟨0, 0, 0, []⟩) m M) ?_ ?_ (fun _ _ h => h)
  · refine r_for ?_ (by intros; with_unfolding_all rfl) (by intros; with_unfolding_all rfl)
    (repeat (tb_start; (try dsimp only)))
    refine r_getA S9 G2.kin (I3.sub fun q hq _ => .tail _ (.tail _ hq)) (by tb_rel) (fun s10 S10 => ?_) (by kernel_rfl) (by kernel_rfl) (attr := none) (by kernel_rfl) (by kernel_rfl) rfl
    refine r_iterS hh1 S10 (fun i m M => ∃ st, WsJ x dx st m M ∧ st.b ≤ i ∧ st.cnt.length ≤ i ∧ wsF (l.drop i) st = wsF l ⟨0, 0, 0, []⟩)
      ⟨⟨0, 0, 0, []⟩, ⟨cp, [], 0, _, _, _, _, _, _, _, 0, by tb_rel, by tb_rel, by tb_rel, by tb_rel, by tb_rel, by tb_rel, by tb_rel, .head _, .nil, by simp, by simp, I3.sub fun q hq _ => .tail _ (.tail _ hq), by decide, by tb_rel, rfl⟩, by simp, by simp, rfl⟩ ?_ ?_ (by with_unfolding_all rfl) (by with_unfolding_all rfl)
    · rintro i c t m₁ M₁ I oI s11 hc ⟨st, ⟨cp1, vs, n, tS, tT, tb, tn, tt, f, cc, bi, m1, m2, m3, m4, m5, m6, m7, hm, hi, hb, hcn, I1, hcc, hf, rfl⟩, hbi, hci, hws⟩ S11
      have hc' : l[i]? = some c := by simpa [T] using hc
      have hil : i < l.length := by
        rcases Nat.lt_or_ge i l.length with h | h
        · exact h
        · rw [List.getElem?_eq_none h] at hc'; cases hc'
      have hd : l.drop i = c :: l.drop (i + 1) := by
        rw [List.drop_eq_getElem_cons hil]
        rw [List.getElem?_eq_getElem hil] at hc'
        rw [Option.some.inj hc']
      rw [hd, wsF] at hws
      have eT : ({ cps := #[c] } : Str) = T [c] := rfl
      rw [eT] at S11
      (repeat (tb_start; (try dsimp only)))
      split
      · rename_i h1
        have h1' : c = 32 := by simpa using h1
        rw [if_pos h1'] at hws
        (repeat (tb_start; (try dsimp only)))
        exact ⟨_, [], M₁, by assumption, ⟨st.b + 1, st.n + 1, st.nt, st.cnt⟩, ⟨cp1, vs, n, tS, tT, _, _, tt, f, cc, _, by tb_rel, by tb_rel, by tb_rel, by tb_rel, by tb_rel, by tb_rel, by tb_rel, hm, hi, by show st.b + 1 ≤ 200; omega, hcn, I1, hcc, hf, by show _ = ((st.b + 1 : Nat) : Int); omega⟩, by show st.b + 1 ≤ i + 1; omega, by show st.cnt.length ≤ i + 1; omega, hws⟩
      · rename_i h1
        have h1' : ¬ c = 32 := by simpa using h1
        rw [if_neg h1'] at hws
        (repeat (tb_start; (try dsimp only)))
        split
        · rename_i h2
          have h2' : c = 9 := by simpa using h2
          rw [if_pos h2'] at hws
          (repeat (tb_start; (try dsimp only)))
          rename_i s12 S12
          refine r_lenL S12 ⟨_, S12.at (.tail _ hm), rfl, _, rfl⟩ (by rw [ints_len hi]; omega) fun t13 s13 S13 => ?_
          rw [ints_len hi]
          (repeat (tb_start; (try dsimp only)))
          split
          · rename_i h3
            have h3' : st.cnt.length ≤ st.b := by simpa using h3
            (repeat (tb_start; (try dsimp only)))
            refine r_lstE ?_
            (repeat (tb_start; (try dsimp only)))
            rename_i tz sz Sz
            refine ⟨by simp, _, _, _, _, _, _, Sz, ?_⟩
            intro Z s14 G14
            have S14 := Sz.grow G14
            (repeat (tb_start; (try dsimp only)))
            refine r_lenL S14 ⟨_, S14.at (.tail _ (.tail _ hm)), rfl, _, rfl⟩ (by rw [ints_len hi]; omega) fun t16 s16 S16 => ?_
            rw [ints_len hi]
            (repeat (tb_start; (try dsimp only)))
            rename_i s17 S17
            refine r_mulL S17 (.head _) (by omega) (by omega) (by simp) fun D s18 G18 => ?_
            have S18 := S17.grow G18
            refine r_addL S18 ⟨_, S18.at (.tail _ (.tail _ (.tail _ hm))), rfl, _, rfl⟩ ⟨_, S18.at (.head _), rfl, _, rfl⟩ (by rw [ints_len hi]; simp; omega) fun cp2 s19 G19 => ?_
            have S19 := S18.grow G19
            obtain ⟨vs2, hvs2, hi2⟩ : ∃ vs2, vs ++ (List.replicate ((st.b : Int) - st.cnt.length + 1).toNat [Value.int 0 tz]).flatten = vs2 ∧ IntsAre vs2 (growF st.cnt st.b) := by
              refine ⟨_, rfl, ?_⟩
              have e : ((st.b : Int) - st.cnt.length + 1).toNat = st.b + 1 - st.cnt.length := by omega
              rw [e, growF, if_pos h3']
              refine hi.append ?_
              have := ints_rep (st.b + 1 - st.cnt.length)
              simpa [List.flatten_replicate_singleton] using this _
            rw [hvs2] at S19
            obtain ⟨n2, M2, hM2, hm2, hI2, I2, hcI, hcx, hIx⟩ : ∃ n2 M2, ([(cp2, lsN vs2 0)] ++ ([(D, lsN (List.replicate ((st.b : Int) - st.cnt.length + 1).toNat [Value.int 0 tz]).flatten 0)] ++ ([(Z, lsN [Value.int 0 tz] 0)] ++ ((I, oI) :: M₁)))) = M2 ∧ (cp2, lsN vs2 n2) ∈ M2 ∧ (I, oI) ∈ M2 ∧ Inst M2 x dx 181 .plain f cc ∧ cp2 ≠ I ∧ (∀ q : Addr × Obj, q.1 = x ∨ q.1 = dx → q.1 ≠ cp2) ∧ (∀ q : Addr × Obj, q.1 = x ∨ q.1 = dx → q.1 ≠ I) := by
              refine ⟨0, _, rfl, .head _, .tail _ (.tail _ (.tail _ (.head _))), I1.sub fun q hq _ => .tail _ (.tail _ (.tail _ (.tail _ hq))), ?_, ?_, ?_⟩
              · exact Ne.symm (S19.off1 (p := (I, oI)) (.tail _ (.tail _ (.head _))))
              · obtain ⟨es, nn, hdx, -⟩ := I1.own
                rintro q (e | e) <;> rw [e]
                · exact S19.off1 (.tail _ (.tail _ (.tail _ I1.obj)))
                · exact S19.off1 (.tail _ (.tail _ (.tail _ hdx)))
              · obtain ⟨es, nn, hdx, -⟩ := I1.own
                rintro q (e | e) <;> rw [e]
                · exact S11.off1 I1.obj
                · exact S11.off1 hdx
            rw [hM2] at S19
            (repeat (tb_start; (try dsimp only)))
            refine wpAny_Assign_Subscript ?_ (by with_unfolding_all rfl)
            (repeat (tb_start; (try dsimp only)))
            rename_i s20 S20
            have hl2 : st.b < vs2.length := by rw [ints_len hi2]; exact growF_len _ _
            have hl3 : vs2.length ≤ 201 := by rw [ints_len hi2]; have := growF_le st.cnt st.b; omega
            obtain ⟨t2, hv2⟩ := ints_at' hi2 (List.getElem?_eq_getElem (growF_len st.cnt st.b))
            refine r_itemL ⟨_, S20.at hm2, rfl, _, rfl⟩ rfl (by omega) hv2 ?_
            (repeat (tb_start; (try dsimp only)))
            rename_i s21 S21
            refine r_setL S21 hm2 rfl hl2 (by omega) fun n3 s22 S22 => ?_
            (repeat (tb_start; (try dsimp only)))
            rename_i s23 S23
            have hne2 : cp2 ≠ I := hcI
            obtain ⟨m', pre, post, Sg, rfl, hJ⟩ := turn_split (J := fun M => (cp2, lsN (vs2.set st.b _) n3) ∈ M ∧ Inst M x dx 181 .plain f cc) S23 (chg_off hI2 (Ne.symm hne2)) fun M₂ h =>
              ⟨h _ (chg_mem hm2) hne2, I2.sub fun q hq hqq => h _ (chg_off hq (hcx q hqq)) (hIx q hqq)⟩
            refine ⟨_, pre, post, Sg, ⟨0, st.n + 1, st.nt + 1, bumpF st.cnt st.b⟩, ⟨cp2, _, n3, tS, tT, _, _, _, f, cc, _, by tb_rel, by tb_rel, by tb_rel, by tb_rel, by tb_rel, by tb_rel, by tb_rel, hJ.1, ?_, by simp, ?_, hJ.2, hcc, hf, rfl⟩, by simp, ?_, hws⟩
            · have hb2 : (growF st.cnt st.b).getD st.b 0 = (growF st.cnt st.b)[st.b]'(growF_len _ _) := by
                rw [List.getD_eq_getElem?_getD, List.getElem?_eq_getElem (growF_len _ _)]; rfl
              rw [bumpF, hb2]
              exact ints_set hi2 _ _ _
            · show (bumpF st.cnt st.b).length ≤ 201
              rw [bumpF_len]; have := growF_le st.cnt st.b; omega
            · show (bumpF st.cnt st.b).length ≤ i + 1
              rw [bumpF_len]; have := growF_le st.cnt st.b; omega
          · rename_i h3
            have h3' : ¬ st.cnt.length ≤ st.b := by simpa using h3
            (repeat (tb_start; (try dsimp only)))
            have hg2 : IntsAre vs (growF st.cnt st.b) := by rw [growF, if_neg h3']; exact hi
            obtain ⟨cp2, vs2, n2, M2, ecp, evs, en, hM2, hi2, hm2, hI2, I2, hcI, hcx, hIx⟩ : ∃ cp2 vs2 n2 M2, cp2 = cp1 ∧ vs2 = vs ∧ n2 = n ∧ ((I, oI) :: M₁) = M2 ∧ IntsAre vs2 (growF st.cnt st.b) ∧ (cp2, lsN vs2 n2) ∈ M2 ∧ (I, oI) ∈ M2 ∧ Inst M2 x dx 181 .plain f cc ∧ cp2 ≠ I ∧ (∀ q : Addr × Obj, q.1 = x ∨ q.1 = dx → q.1 ≠ cp2) ∧ (∀ q : Addr × Obj, q.1 = x ∨ q.1 = dx → q.1 ≠ I) := by
              refine ⟨cp1, vs, n, _, rfl, rfl, rfl, rfl, hg2, .tail _ hm, .head _, I1.sub fun q hq _ => .tail _ hq, S11.off1 hm, ?_, ?_⟩
              · obtain ⟨es, nn, hdx, -⟩ := I1.own
                rintro q (e | e) <;> rw [e]
                · exact (S11.other (.tail _ I1.obj) (.tail _ hm) fun e => absurd (congrArg Obj.cls e) (by simp))
                · exact (S11.other (.tail _ hdx) (.tail _ hm) fun e => absurd (congrArg Obj.cls e) (by simp))
              · obtain ⟨es, nn, hdx, -⟩ := I1.own
                rintro q (e | e) <;> rw [e]
                · exact S11.off1 I1.obj
                · exact S11.off1 hdx
            subst ecp evs en
            rw [hM2] at S13
            refine wpAny_Assign_Subscript ?_ (by with_unfolding_all rfl)
            (repeat (tb_start; (try dsimp only)))
            have S20 := S13
            have hl2 : st.b < vs2.length := by rw [ints_len hi2]; exact growF_len _ _
            have hl3 : vs2.length ≤ 201 := by rw [ints_len hi2]; have := growF_le st.cnt st.b; omega
            obtain ⟨t2, hv2⟩ := ints_at' hi2 (List.getElem?_eq_getElem (growF_len st.cnt st.b))
            refine r_itemL ⟨_, S20.at hm2, rfl, _, rfl⟩ rfl (by omega) hv2 ?_
            (repeat (tb_start; (try dsimp only)))
            rename_i s21 S21
            refine r_setL S21 hm2 rfl hl2 (by omega) fun n3 s22 S22 => ?_
            (repeat (tb_start; (try dsimp only)))
            rename_i s23 S23
            have hne2 : cp2 ≠ I := hcI
            obtain ⟨m', pre, post, Sg, rfl, hJ⟩ := turn_split (J := fun M => (cp2, lsN (vs2.set st.b _) n3) ∈ M ∧ Inst M x dx 181 .plain f cc) S23 (chg_off hI2 (Ne.symm hne2)) fun M₂ h =>
              ⟨h _ (chg_mem hm2) hne2, I2.sub fun q hq hqq => h _ (chg_off hq (hcx q hqq)) (hIx q hqq)⟩
            refine ⟨_, pre, post, Sg, ⟨0, st.n + 1, st.nt + 1, bumpF st.cnt st.b⟩, ⟨cp2, _, n3, tS, tT, _, _, _, f, cc, _, by tb_rel, by tb_rel, by tb_rel, by tb_rel, by tb_rel, by tb_rel, by tb_rel, hJ.1, ?_, by simp, ?_, hJ.2, hcc, hf, rfl⟩, by simp, ?_, hws⟩
            · have hb2 : (growF st.cnt st.b).getD st.b 0 = (growF st.cnt st.b)[st.b]'(growF_len _ _) := by
                rw [List.getD_eq_getElem?_getD, List.getElem?_eq_getElem (growF_len _ _)]; rfl
              rw [bumpF, hb2]
              exact ints_set hi2 _ _ _
            · show (bumpF st.cnt st.b).length ≤ 201
              rw [bumpF_len]; have := growF_le st.cnt st.b; omega
            · show (bumpF st.cnt st.b).length ≤ i + 1
              rw [bumpF_len]; have := growF_le st.cnt st.b; omega
        · rename_i h2
          have h2' : ¬ c = 9 := by simpa using h2
          rw [if_neg h2'] at hws
          (repeat (tb_start; (try dsimp only)))
          refine ⟨rfl, _, _, by assumption, ?_⟩
          rw [← hws]
          exact ⟨cp1, vs, n, tS, tT, tb, tn, tt, f, cc, _, by tb_rel, by tb_rel, by tb_rel, by tb_rel, by tb_rel, by tb_rel, by tb_rel, .tail _ hm, hi, hb, hcn, I1.sub fun q hq _ => .tail _ hq, hcc, hf, rfl⟩
    · rintro m₁ M₁ s11 ⟨st, hJ, -, -, hws⟩ S11
      have hz : (T l).cps.size = l.length := T_length l
      rw [hz, List.drop_length, wsF] at hws
      exact ⟨rfl, _, _, S11, by rw [← hws]; exact hJ⟩
  · rintro fl s11 ⟨rfl, m4, M4, S11, cp1, vs, n, tS, tT, tb, tn, tt, f, cc, bi, m1, m2, m3, m5, m6, m7, m8, hm, hi, hb, hcn, I1, hcc, hf, rfl⟩
    dsimp only
    (repeat (tb_start; (try dsimp only)))
    refine r_setA (by assumption) G2.kin I1 (by omega) ?_ (by kernel_rfl) (by kernel_rfl) (by kernel_rfl) (by kernel_rfl)
    intro M12 s12 S12 I12 hM12
    (repeat (tb_start; (try dsimp only)))
    refine r_setA (by assumption) G2.kin I12 (by omega) ?_ (by kernel_rfl) (by kernel_rfl) (by kernel_rfl) (by kernel_rfl)
    intro M13 s13 S13 I13 hM13
    (repeat (tb_start; (try dsimp only)))
    have hcpd : cp1 ≠ dx := by
      obtain ⟨es, nn, hdx, -⟩ := I1.own
      exact S11.other hm hdx fun e => absurd (congrArg Obj.cls e) (by simp)
    have hm13 := hM13 _ (hM12 _ hm hcpd) hcpd
    refine r_tup ?_
    (repeat (tb_start; (try dsimp only)))
    refine r_tupL S13 ⟨_, S13.at hm13, rfl, _, rfl⟩ (by rw [ints_len hi]; omega) fun T2 s14 G14 => ?_
    have S14 := S13.grow G14
    (repeat (tb_start; (try dsimp only)))
    refine ⟨by simp, _, _, _, _, _, _, S14, ?_⟩
    intro T1 s15 G15
    have S15 := S14.grow G15
    (repeat (tb_start; (try dsimp only)))
    refine r_setA S15 G2.kin (I13.sub fun q hq _ => .tail _ (.tail _ hq)) (by omega) ?_ (by kernel_rfl) (by kernel_rfl) (by kernel_rfl) (by kernel_rfl)
    intro M16 s16 S16 I16 hM16
    (repeat (tb_start; (try dsimp only)))
    have hm16 := hM16 _ (.tail _ (.tail _ hm13)) hcpd
    refine r_lenL S16 ⟨_, S16.at hm16, rfl, _, rfl⟩ (by rw [ints_len hi]; omega) fun t17 s17 S17 => ?_
    (repeat (tb_start; (try dsimp only)))
    refine r_setA (by assumption) G2.kin I16 (by omega) ?_ (by kernel_rfl) (by kernel_rfl) (by kernel_rfl) (by kernel_rfl)
    intro M18 s18 S18 I18 hM18
    (repeat (tb_start; (try dsimp only)))
    have hd1 : T1 ≠ dx := by
      obtain ⟨es, nn, hdx, -⟩ := I13.own
      exact S15.other (.head _) (.tail _ (.tail _ hdx)) fun e => absurd (congrArg Obj.cls e) (by simp)
    have hd2 : T2 ≠ dx := by
      obtain ⟨es, nn, hdx, -⟩ := I13.own
      exact S15.other (.tail _ (.head _)) (.tail _ (.tail _ hdx)) fun e => absurd (congrArg Obj.cls e) (by simp)
    refine ⟨rfl, k x dx _ _ s18 M18 T1 T2 _ _ _ (S1.back S18) I18 (by tb_rel) (by tb_rel) (hM18 _ (hM16 _ (.head _) hd1) hd1) (hM18 _ (hM16 _ (.tail _ (.head _)) hd2) hd2) hi (by tb_rel)⟩

end
section
open PySem.Spec PySem.Calls
open PyProof.Rows.LCg (lst lst_snoc)
/-- a call of a function that may change what the caller holds -/
theorem r_callH {prog : Program} {w : World} {A : Around} {E : Value → Shared → Prop} {s : Shared} {h₀ : Heap} {L : Addr} {m : Str → Option Value} {M H : List (Addr × Obj)} {o : OsState} {d : Drawn} {mean : ExcName → Option Value} {mg mb : Str → Option Value} {b : Nat}
    {f : Addr} {fo : Obj} {fd : FuncData} {args : List Value} {binds : List (Str × Value)} {body : List Stmt} {Q : Value → Shared → Prop}
    (R : Room A (b + 1)) (S : Sat h₀ L m (H ++ M) o d s) (G : Gl w mean mg mb h₀) (ho : s.heap.get? f = some fo) (hfo : fo.data = .func fd) (hb : fd.body = .stmts body) (hcd : s.heap.CodeRec fd.code fd.qualname)
    (hbind : bindArgs fd ⟨args, []⟩ = pure binds) (hc : ∀ x ∈ fd.scope.names, x.2 ≠ .cell) (hl : ∀ x ∈ binds, fd.scope.names.lookup x.1 = some .local)
    (hco : fd.scope.isCoroutine = false) (hgen : fd.scope.isGenerator = false) (hk : fd.scope.kind = .function)
    (k : ∀ A1 s', Room A1 b → Gl w mean mg mb (hideAll s.heap (keysOf H)) → Sat (hideAll s.heap (keysOf H)) s.heap.objs.size (fun x => binds.reverse.lookup x) H s.os s.drawn s' →
      wpAny (model prog w) A1 (execs body (newEnv fd.scope s.heap.objs.size fd.globals fd.closure (fd.qualname ++ ".<locals>.") (some f) fd.code none fd.builtins))
        (fun fl s'' => Q (match fl with | .ret v => v | _ => .none) s'') F0 s') :
    wpAny (model prog w) A (call (.ref f) args) Q E s :=
  wpAny_call (r_codeH R S G ho hfo hb hcd hbind hc hl hco hgen hk k)
theorem r_lenTp {prog : Program} {w : World} {A : Around} {E : Value → Shared → Prop} {s : Shared} {h₀ : Heap} {L : Addr} {m : Str → Option Value} {M : List (Addr × Obj)} {o : OsState} {d : Drawn} {t : Addr} {vs : List Value} {Q : Value → Shared → Prop}
    (S : Sat h₀ L m M o d s) (hl : s.heap.IsTuple t vs.toArray) (hz : vs.length ≤ 100000) (k : ∀ t s', Sat h₀ L m M o d s' → Q (.int vs.length t) s') :
    wpAny (model prog w) A (call (.builtin "len") [.ref t]) Q E s := by
  refine len_tuple hl (by rw [List.size_toArray]; omega) ?_
  rw [List.size_toArray]
  exact k _ _ (S.tk _)
set_option maxHeartbeats 4000000 in
theorem r_long {w : World} {A : Around} {E : Value → Shared → Prop} {s : Shared} {h₀ : Heap} {L : Addr} {m : Str → Option Value} {M : List (Addr × Obj)} {o : OsState} {d : Drawn} {mean : ExcName → Option Value} {mg mb : Str → Option Value} {Q : Value → Shared → Prop}
    {x dx T1 T2 : Addr} {f : Str → Option Value} {c : Nat} {bb : Int} {t2 : Tok} {vs : List Value}
    (R : Room A 2) (S : Sat h₀ L m M o d s) (G : Gl w mean mg mb h₀) (I : Inst M x dx 181 .plain f c) (hn : f "norm" = some (.ref T1)) (h1 : (T1, tpN [.ref T2, .int bb t2]) ∈ M) (h2 : (T2, tpN vs) ∈ M) (hz : vs.length ≤ 201)
    (k : ∀ t s', Sat h₀ L m M o d s' → Q (.int (max ((vs.length : Int) - 1) bb) t) s') :
    wpAny (model PySem.Challenge.rw_xo0031_01.row.prog w) A (call (.ref 143) [.ref x]) Q E s := by
  have ho := S.fr.keep _ _ (G.kin 143 _ (rfl : (hd.heap_1 w.params).lookup 143 = some _))
  have Se : Sat h₀ L m (M ++ []) o d s := by rw [List.append_nil]; exact S
  refine r_callH R Se G ho rfl rfl (codeRec_of (K := (hd.heap_1 w.params)) (G.kin.keeps S.fr.keep) (by kernel_rfl)) (binds := [(Str.ofString "self", .ref x)]) rfl (by decide) (locs rfl) rfl rfl rfl ?_
  clear ho
  intro A1 s2 R2 G2 S2
  have hh1 := R2.hh
  dsimp only [newEnv]
  (repeat (tb_start; (try dsimp only)))
  refine Assign_Tuple ?_ (by with_unfolding_all rfl) (by with_unfolding_all rfl)
  (repeat (tb_start; (try dsimp only)))
  refine r_getA S2 G2.kin I hn (fun s3 S3 => ?_) (by kernel_rfl) (by kernel_rfl) (attr := none) (by kernel_rfl) (by kernel_rfl) rfl
  (repeat (tb_start; (try dsimp only)))
  refine r_asgP hh1 S3 ⟨_, S3.at h1, rfl, 0, rfl⟩ ?_ (by with_unfolding_all rfl) (by with_unfolding_all rfl) (by with_unfolding_all rfl)
  intro s4 S4
  (repeat (tb_start; (try dsimp only)))
  refine r_lenTp S4 ⟨_, S4.at h2, rfl, 0, rfl⟩ (by omega) fun t5 s5 S5 => ?_
  (repeat (tb_start; (try dsimp only)))
  rename_i s6 S6
  have := Se.back S6
  rw [List.append_nil] at this
  exact k _ _ this

end
section
open PySem.Spec PySem.Calls Builtin
set_option maxHeartbeats 4000000
/-- a class that is made by list's own way -/
noncomputable def makesL (K : Frag) (C : Addr) : Bool := match K.lookup C with
  | some ⟨_, _, .cls cd, sl⟩ => !cd.abstract && !cd.hasDel && (sl.toList[4]?).join == some (.builtin "list.__new__") && !cd.mro.isEmpty && cd.mro.contains (.ref C) && cd.mro.contains (.type "list") &&
      specialIn K (.ref C) "__call__" == some (some (.builtin "type.__call__")) && instIn K (.ref C) (.type "type") == some true
  | _ => false
structure MakesL (M : Model) (h : Heap) (C : Addr) : Prop where
  obj : ∃ oc od cd sl, h.get? C = some ⟨oc, od, .cls cd, sl⟩ ∧ cd.abstract = false ∧ cd.hasDel = false ∧ cd.mro.isEmpty = false
  made : Looks M h (Bind.madeBy (.ref C)) (some "list.__new__")
  base : Looks M h (Bind.staticBase (.ref C)) (.ref C)
  self : Looks M h (isSubtype (.ref C) (.ref C)) true
  top : Looks M h (isSubtype (.ref C) (.type "list")) true
  call : Looks M h (specialOf (.ref C) "__call__") (some (.builtin "type.__call__"))
  typ : Looks M h (isInstance (.ref C) (.type "type")) true
theorem makesL_of {K : Frag} {M : Model} {h : Heap} (X : K.In h) {C : Addr} (e : makesL K C = true) : MakesL M h C := by
  unfold makesL at e
  split at e
  · rename_i oc od cd sl ho
    simp only [Bool.and_eq_true, Bool.not_eq_true', beq_iff_eq] at e
    obtain ⟨⟨⟨⟨⟨⟨⟨e1, e2⟩, e3⟩, e4⟩, e5⟩, e6⟩, e7⟩, e8⟩ := e
    have hc : clsIn K C = some cd := by unfold clsIn; rw [ho]
    have hm : Looks M h (mroOf (.ref C)) cd.mro := (looks_clsIn X hc).andThen .now
    obtain ⟨c, l, hl⟩ : ∃ c l, cd.mro = c :: l := by cases q : cd.mro with | nil => rw [q] at e4; cases e4 | cons c l => exact ⟨c, l, rfl⟩
    have made : Looks M h (Bind.madeBy (.ref C)) (some "list.__new__") := by
      intro A Q E s k q
      unfold Bind.madeBy
      refine wpAny_bind (hm A _ E s k ?_)
      rw [hl, List.forIn_cons]
      refine wpAny_bind (wpAny_bind (wpAny_bind (wpAny_bind (wpAny_loadPart (k _ _ (X _ _ ho)) (wpAny_pure ?_)))))
      dsimp only
      rw [← Array.getElem?_toList, e3]
      exact wpAny_pure (wpAny_pure (wpAny_pure q))
    refine ⟨⟨oc, od, cd, sl, X _ _ ho, e1, e2, e4⟩, made, ?_, looks_mroIn X ?_, looks_mroIn X ?_, looks_specialIn X e7, looks_instIn X e8⟩
    · intro A Q E s k q
      unfold Bind.staticBase
      refine wpAny_bind (hm A _ E s k ?_)
      rw [hl, List.forIn_cons]
      exact wpAny_bind (wpAny_bind (wpAny_bind (made A _ E s k (wpAny_pure (wpAny_pure (wpAny_pure q))))))
    · unfold mroIn; rw [hc, Option.bind_some, if_neg (by rw [e4]; decide), e5]
    · unfold mroIn; rw [hc, Option.bind_some, if_neg (by rw [e4]; decide), e6]
  · cases e
noncomputable abbrev listObj (C dx : Addr) (vs : List Value) (n : Nat) : Obj := { cls := .ref C, dict := some dx, data := .seq vs.toArray n }
theorem ln_split : splitId "list.__new__" = some ("list", "__new__") := by decide +kernel
theorem ln_kind : builtinKind "list.__new__" = some .builtinFn := by decide +kernel
theorem ln_quiet : ("list.__new__" : String).startsWith "lifetime." = false := by decide +kernel
theorem ln_row : Manifest.signature? "list.__new__" = some ⟨.any, "list", "list", .cls, [⟨"args", .varPos, false⟩, ⟨"kwargs", .varKw, false⟩]⟩ := by kernel_rfl
section
variable {prog : Program} {w : World} {A : Around} {K : Frag} {C : Addr} {R : Result → Shared → Prop} {h : Heap} {g : Array GenState} {d : Drawn} {t : Nat} {os : OsState}

theorem new_L {rest : List Value} (Y : MakesL (model prog w) h C)
    (hq : R (.ok (.ret (.ref (h.objs.size + 1)))) ⟨(h.push emptyDict).push (listObj C h.objs.size [] 0), g, d, t, os⟩) :
    codeAny (model prog w) A (.call (.builtin "list.__new__") ⟨.ref C :: rest, []⟩) R ⟨h, g, d, t, os⟩ := by
  obtain ⟨⟨oc, od, cd, sl, hC, e1, e2, e4⟩, made, base, self, top, call, typ⟩ := Y
  refine codeAny_call_builtin_code (Code.quiet_builtin _ ln_quiet) ?_
  have here : Looks (model prog w) h (Bind.madeHere "list.__new__" (.ref C)) () := base.andThen (made.andThen (Looks.of_pure (by simp only [Option.map_some, bne_self_eq_false, Bool.false_eq_true, if_false])))
  simp only [checkBuiltinCall, ln_kind, ln_split, ln_row]
  have args : Bind.checkArgs "list.__new__" ⟨.any, "list", "list", .cls, [⟨"args", .varPos, false⟩, ⟨"kwargs", .varKw, false⟩]⟩ ⟨.ref C :: rest, []⟩ = pure () := by kernel_rfl
  rw [args]
  repeat (first | simp only [bne_self_eq_false, Bool.false_eq_true, if_false] | lk)
  refine codeAny_builtin_stack PySem.F.entry_list_new rfl fun p st => ?_
  rw [Around.under_plainId PySem.F.plain_list_new _]
  have hown := owner_list_new
  simp only [hown]
  have hC' := Heap.get?_push_of_some (listObj C (h.push emptyDict).objs.size.pred [] 0) (Heap.get?_push_of_some emptyDict hC)
  repeat (first | simp only [Bool.false_eq_true, if_false, Bool.not_true] | lk)
  refine wpAny_load (Heap.get?_push_of_some _ (Heap.get?_push_of_some _ hC)) ?_
  dsimp only
  refine wpAny_pure ?_
  rw [e2]
  refine wpAny_pure (wpAny_pure ?_)
  show R _ _
  rw [Heap.size_push]
  exact hq

theorem make_L {rest : List Value} {init : Value} (Y : MakesL (model prog w) h C) (hi : Looks (model prog w) h (typeLookup (.ref C) "__init__") (some init))
    (hb : ∀ self, Looks (model prog w) h (bindSpecial init self) (init, [self]))
    (hq : codeAny (model prog w) (A.under (.builtin "type.__call__" ⟨.ref C :: rest, []⟩)) (.call init ⟨.ref (h.objs.size + 1) :: rest, []⟩) (InitBack (h.objs.size + 1) R) ⟨(h.push emptyDict).push (listObj C h.objs.size [] 0), g, d, t, os⟩) :
    codeAny (model prog w) A (.call (.ref C) ⟨rest, []⟩) R ⟨h, g, d, t, os⟩ := by
  have Y' := Y
  obtain ⟨⟨oc, od, cd, sl, hC, e1, e2, e4⟩, made, base, self, top, call, typ⟩ := Y
  refine codeAny_of_tree ?_
  show wpAny _ _ (callAny (.ref C) _) _ _ _
  refine nd_load hC ?_
  show wpAny _ _ (callAny.viaDunder (.ref C) _) _ _ _
  unfold callAny.viaDunder
  refine wpAny_bind (call.at ?_)
  dsimp only
  rw [tc_bind]
  refine wpAny_bind (wpAny_pure (wpAny_bind (wpAny_pure ?_)))
  refine wpAny_pure (a := Fin.again (.call (.builtin "type.__call__") ⟨.ref C :: rest, []⟩)) (And.intro rfl ?_)
  with_reducible refine codeAny_call_builtin_at (Code.quiet_builtin _ (by decide +kernel)) entry_typeCall (check_slot tc_kind tc_split typ (tc_args _ _ _) ?_)
  unfold Builtin.«type.__call__»
  have hm : Looks (model prog w) h (mroOf (.ref C)) cd.mro := ((Looks.ld (part := none) hC).andThen .now).andThen .now
  repeat (first | simp only [e4, Bool.false_eq_true, if_false] | with_reducible refine wpAny_call ?_ | lk)
  refine new_L Y' ?_
  have k : ∀ b o, h.get? b = some o → ((h.push emptyDict).push (listObj C h.objs.size [] 0)).get? b = some o := fun b o e => Heap.get?_push_of_some _ (Heap.get?_push_of_some _ e)
  have hx : ((h.push emptyDict).push (listObj C h.objs.size [] 0)).get? (h.objs.size + 1) = some (listObj C h.objs.size [] 0) := by heap_get
  have t1 : Looks (model prog w) ((h.push emptyDict).push (listObj C h.objs.size [] 0)) (typeOf (.ref (h.objs.size + 1))) (.ref C) := (Looks.ld hx).andThen .now
  have s1 := self.keeps k
  have i1 := hi.keeps k
  have b1 := (hb (.ref (h.objs.size + 1))).keeps k
  unfold isInstance callSpecial? specialOf
  repeat (first | with_reducible refine wpAny_call ?_ | lk)
  refine codeAny_mono hq fun r s' z => ?_
  rcases r with e | (v | _ | _ | _) <;> first | exact z | exact z.elim | skip
  obtain ⟨rfl, z⟩ := z
  exact wpAny_pure (wpAny_pure z)
end
theorem acc_makes (w : World) : makesL (hd.heap_1 w.params) 101 = true := by kernel_rfl
/-- an object of a list's subclass with __init__ of the text's own -/
theorem r_makeL {w : World} {A : Around} {E : Value → Shared → Prop} {s : Shared} {h₀ : Heap} {L : Addr} {m : Str → Option Value} {M : List (Addr × Obj)} {o : OsState} {d : Drawn} {mean : ExcName → Option Value} {mg mb : Str → Option Value} {prog : Program}
    {C fI : Addr} {args : List Value} {Q : Value → Shared → Prop} (S : Sat h₀ L m M o d s) (G : Gl w mean mg mb h₀) (hm : makesL (hd.heap_1 w.params) C = true) (hi : findIn (hd.heap_1 w.params) (.ref C) "__init__" = some (some (.ref fI))) (hf : isFn (hd.heap_1 w.params) (.ref fI) = true)
    (k : ∀ x dx s', Sat h₀ L m ([(x, listObj C dx [] 0), (dx, dictOf [] 0)] ++ M) o d s' → s'.os = s.os → s'.drawn = s.drawn → x ≠ dx →
      codeAny (model prog w) (A.under (.builtin "type.__call__" ⟨.ref C :: args, []⟩)) (.call (.ref fI) ⟨.ref x :: args, []⟩) (fun r s'' => r = .ok (.ret .none) ∧ Q (.ref x) s'') s') :
    wpAny (model prog w) A (call (.ref C) args) Q E s := by
  have X := G.kin.keeps S.fr.keep
  refine wpAny_call ?_
  have S1 := (S.push emptyDict).push (listObj C s.heap.objs.size [] 0)
  dsimp only at S1
  have e : (s.heap.push emptyDict).objs.size = s.heap.objs.size + 1 := Heap.size_push _ _
  rw [e] at S1
  obtain ⟨hh, gg, dd, tt, oo⟩ := s
  refine make_L (makesL_of X hm) (looks_findIn X hi) (fun self => bind_fn X self (beq_iff_eq.mp hf)) ?_
  refine codeAny_mono (k _ _ _ S1 rfl rfl (Nat.succ_ne_self _)) fun r s'' hr => ?_
  obtain ⟨rfl, hq⟩ := hr
  exact ⟨rfl, hq⟩

end
section
open PySem.Spec PySem.Calls Builtin
set_option maxHeartbeats 4000000
theorem bb_init_get : Slot "wrapper_descriptor" "__get__" "wrapper_descriptor.__get__" := .of (owner := "wrapper_descriptor") (n := "__get__") (by rw [typeLookup_type, builtinLookup_eq_fast]; kernel_rfl) (by decide +kernel) (by decide +kernel) (by decide +kernel)
  (by first | exact .inl (by decide +kernel) | exact .inr (by decide +kernel)) (by rw [isSubtype_type]; kernel_rfl)
theorem bb_meth_get : Slot "method_descriptor" "__get__" "method_descriptor.__get__" := .of (owner := "method_descriptor") (n := "__get__") (by rw [typeLookup_type, builtinLookup_eq_fast]; kernel_rfl) (by decide +kernel) (by decide +kernel) (by decide +kernel)
  (by first | exact .inl (by decide +kernel) | exact .inr (by decide +kernel)) (by rw [isSubtype_type]; kernel_rfl)
theorem bb_entry_w : entryFor table "wrapper_descriptor.__get__" = some Builtin.«wrapper_descriptor.__get__» := entryFor_of_tree (by kernel_rfl)
theorem bb_entry_m : entryFor table "method_descriptor.__get__" = some Builtin.«method_descriptor.__get__» := entryFor_of_tree (by kernel_rfl)
theorem bb_args_w (a b c : Value) : argsOk "wrapper_descriptor.__get__" ⟨[a, b, c], []⟩ := by unfold argsOk; kernel_rfl
theorem bb_args_m (a b c : Value) : argsOk "method_descriptor.__get__" ⟨[a, b, c], []⟩ := by unfold argsOk; kernel_rfl
theorem bb_ty_init : typeOf (.builtin "list.__init__") = pure (.type "wrapper_descriptor") := by show builtinType _ = _; rw [builtinType_eq_fast]; kernel_rfl
theorem bb_ty_len : typeOf (.builtin "list.__len__") = pure (.type "wrapper_descriptor") := by show builtinType _ = _; rw [builtinType_eq_fast]; kernel_rfl
theorem bb_ty_pop : typeOf (.builtin "list.pop") = pure (.type "method_descriptor") := by show builtinType _ = _; rw [builtinType_eq_fast]; kernel_rfl
section
variable {prog : Program} {w : World} {M : Model} {A : Around} {E : Value → Shared → Prop} {h : Heap} {g : Array GenState} {d : Drawn} {t : Nat} {os : OsState} {x C : Addr}
theorem bb_own_init : ".".intercalate (("list.__init__" : String).cutAt '.').dropLast = "list" := by decide +kernel
theorem bb_own_len : ".".intercalate (("list.__len__" : String).cutAt '.').dropLast = "list" := by decide +kernel
theorem bb_own_pop : ".".intercalate (("list.pop" : String).cutAt '.').dropLast = "list" := by decide +kernel
noncomputable abbrev bndN (T id : String) (x : Addr) : Obj := { cls := .type T, dict := none, data := .fields #[.builtin id, .ref x], slots := #[] }
theorem bb_get_w {id : String} {Q : Fin → Shared → Prop} (hx : ∃ ox, h.get? x = some ox ∧ ox.cls = .ref C) (hs : Looks (model prog w) h (isSubtype (.ref C) (.type "list")) true) (hown : ".".intercalate (id.cutAt '.').dropLast = "list")
    (hq : Q (.done (.ret (.ref h.objs.size))) ⟨h.push (bndN "method-wrapper" id x), g, d, t, os⟩) :
    wpAny (model prog w) A (Builtin.«wrapper_descriptor.__get__» ⟨[.builtin id, .ref x, .ref C], []⟩) Q E ⟨h, g, d, t, os⟩ := by
  unfold Builtin.«wrapper_descriptor.__get__»
  repeat (first | lk | (with_reducible refine wpAny_newObj_type ?_ (by size_fits)) | wp_step | dsimp only)
  obtain ⟨ox, hx, hc⟩ := hx
  refine nd_load (s := ⟨h, g, d, t, os⟩) hx ?_
  refine wpAny_pure ?_
  refine wpAny_pure ?_
  rw [hc]
  show wpAny _ _ (isSubtype (.ref C) (.type (".".intercalate (id.cutAt '.').dropLast))) _ _ _
  rw [hown]
  refine Looks.at hs ?_
  rw [if_neg (by decide)]
  refine wpAny_pure (wpAny_bind ?_)
  unfold newFields
  refine wpAny_newObj_type ?_ (by size_fits)
  exact wpAny_pure hq
theorem bb_get_m {id : String} {Q : Fin → Shared → Prop} (hx : ∃ ox, h.get? x = some ox ∧ ox.cls = .ref C) (hs : Looks (model prog w) h (isSubtype (.ref C) (.type "list")) true) (hown : ".".intercalate (id.cutAt '.').dropLast = "list")
    (hto : Manifest.toldItsClass.contains id = false) (hq : Q (.done (.ret (.ref h.objs.size))) ⟨h.push (bndN "builtin_function_or_method" id x), g, d, t, os⟩) :
    wpAny (model prog w) A (Builtin.«method_descriptor.__get__» ⟨[.builtin id, .ref x, .ref C], []⟩) Q E ⟨h, g, d, t, os⟩ := by
  unfold Builtin.«method_descriptor.__get__»
  repeat (first | simp only [hto, Bool.false_eq_true, if_false] | lk | (with_reducible refine wpAny_newObj_type ?_ (by size_fits)) | wp_step | dsimp only)
  obtain ⟨ox, hx, hc⟩ := hx
  refine nd_load (s := ⟨h, g, d, t, os⟩) hx ?_
  refine wpAny_pure ?_
  refine wpAny_pure ?_
  rw [hc]
  show wpAny _ _ (isSubtype (.ref C) (.type (".".intercalate (id.cutAt '.').dropLast))) _ _ _
  rw [hown]
  refine Looks.at hs ?_
  rw [if_neg (by decide)]
  refine wpAny_pure (wpAny_bind ?_)
  unfold newFields
  refine wpAny_newObj_type ?_ (by size_fits)
  exact wpAny_pure hq

/-- super()'s look-up of a built-in's method -/
theorem bb_super_ga {so D : Addr} {id gid DT T : String} {Bg : Builtin} {l₀ l : List Value} {K : Frag} {name : Str} {tk : Tok} {Q : Fin → Shared → Prop}
    (hso : h.get? so = some (ks_superObj D x C)) (hno : Looks (model prog w) h (opaqueClassAbove (.ref C)) none)
    (hC : Looks (model prog w) h (mroOf (.ref C)) l₀) (hl : (l₀.dropWhile (· != .ref D)).drop 1 = l) (X : K.In h)
    (hf : alongIn K name l = some (some (.builtin id))) (hty : typeOf (.builtin id) = pure (.type DT)) (slot : Slot DT "__get__" gid) (entry : entryFor table gid = some Bg) (hargs : argsOk gid ⟨[.builtin id, .ref x, .ref C], []⟩)
    (run : ∀ A (Q : Fin → Shared → Prop) (E : Value → Shared → Prop), Q (.done (.ret (.ref h.objs.size))) ⟨h.push (bndN T id x), g, d, t, os⟩ → wpAny (model prog w) A (Bg ⟨[.builtin id, .ref x, .ref C], []⟩) Q E ⟨h, g, d, t, os⟩)
    (hxC : x ≠ C) (hn : (name == ("__class__" : Str)) = false)
    (hq : Q (.done (.ret (.ref h.objs.size))) ⟨h.push (bndN T id x), g, d, t, os⟩) :
    wpAny (model prog w) A (Builtin.«super.__getattribute__» ⟨[.ref so, .str name tk], []⟩) Q E ⟨h, g, d, t, os⟩ := by
  have hlk := slot.lookup
  have hne : (Value.ref x == Value.ref C) = false := by simp [hxC]
  have hdt : (ks_superObj D x C).data = .fields #[.ref D, .ref x, .ref C] := rfl
  have f0 : (#[.ref D, .ref x, .ref C] : Array Value)[0]? = some (.ref D) := rfl
  have f1 : (#[.ref D, .ref x, .ref C] : Array Value)[1]? = some (.ref x) := rfl
  have f2 : (#[.ref D, .ref x, .ref C] : Array Value)[2]? = some (.ref C) := rfl
  have hT : (⟨h, g, d, t, os⟩ : Shared).TypeIs (.builtin id) DT := hty
  unfold Builtin.«super.__getattribute__»
  repeat (first
    | (with_reducible refine wpAny_field hso hdt f0 ?_) | (with_reducible refine wpAny_field hso hdt f1 ?_) | (with_reducible refine wpAny_field hso hdt f2 ?_)
    | (with_reducible refine ks_wpAny_notOpaque hno ?_)
    | (with_reducible refine Looks.at hC ?_; rw [hl])
    | (refine ks_forIn_along X (fun _ _ => rfl) rfl ?_ hf)
    | (with_reducible refine wpAny_typeOf hT ?_)
    | (with_reducible refine wpAny_call_entry slot hT entry ?_ hargs)
    | (with_reducible refine run _ _ _ ?_)
    | (with_reducible refine ⟨_, rfl, ?_⟩)
    | (simp only [hn, hne, hty, Bool.or_false, Bool.false_eq_true, if_false])
    | wp_step
    | dsimp only)
  all_goals exact hq
end

end
section
open PySem.Spec PySem.Calls Builtin
set_option maxHeartbeats 4000000
theorem bk_init : builtinKind "list.__init__" = some .slot := by decide +kernel
theorem bk_len : builtinKind "list.__len__" = some .slot := by decide +kernel
theorem bk_pop : builtinKind "list.pop" = some .method := by decide +kernel
section
variable {prog : Program} {w : World} {M : Model} {A : Around} {E : Value → Shared → Prop} {h : Heap} {g : Array GenState} {d : Drawn} {t : Nat} {os : OsState} {x C : Addr}
theorem bb_getMethod {so D : Addr} {id gid DT T : String} {Bg : Builtin} {l₀ l : List Value} {K : Frag} {name : Str} {pl : Sem Bool} {Q : Value × List Value → Shared → Prop}
    (hso : h.get? so = some (ks_superObj D x C)) (hno : Looks (model prog w) h (opaqueClassAbove (.ref C)) none)
    (hC : Looks (model prog w) h (mroOf (.ref C)) l₀) (hl : (l₀.dropWhile (· != .ref D)).drop 1 = l) (X : K.In h)
    (hf : alongIn K name l = some (some (.builtin id))) (hty : typeOf (.builtin id) = pure (.type DT)) (slot : Slot DT "__get__" gid) (entry : entryFor table gid = some Bg) (hargs : argsOk gid ⟨[.builtin id, .ref x, .ref C], []⟩)
    (run : ∀ t A (Q : Fin → Shared → Prop) (E : Value → Shared → Prop), Q (.done (.ret (.ref h.objs.size))) ⟨h.push (bndN T id x), g, d, t, os⟩ → wpAny (model prog w) A (Bg ⟨[.builtin id, .ref x, .ref C], []⟩) Q E ⟨h, g, d, t, os⟩)
    (hxC : x ≠ C) (hn : (name == ("__class__" : Str)) = false)
    (hq : Q (.ref h.objs.size, []) ⟨h.push (bndN T id x), g, d, t + 1, os⟩) :
    wpAny (model prog w) A (getMethod (.ref so) name pl) Q E ⟨h, g, d, t, os⟩ := by
  have hlk := PySem.F.ks_slot_super_ga.lookup
  have hcan := PySem.F.ks_canon_super_ga
  have hT : ∀ t', (⟨h, g, d, t', os⟩ : Shared).TypeIs (.ref so) "super" := fun _ => ⟨_, hso, rfl⟩
  unfold getMethod
  refine wpAny_bind (wpAny_specialOf (hT _) hlk ?_)
  show wpAny _ _ (if (Manifest.canonical "super.__getattribute__" != "object.__getattribute__") = true then _ else _) _ _ _
  rw [if_pos hcan]
  unfold getAttr getAttrBy
  refine wpAny_bind (wpAny_bind (wpAny_mkText (wpAny_holding (wpAny_bind (wpAny_typeOf (hT _) (wpAny_bind (wpAny_of_eq hlk ?_)))))))
  show wpAny _ _ (getAttrByItsOwn (.ref so) (.str name t) (.type "super") (.builtin "super.__getattribute__") true false) _ _ _
  unfold getAttrByItsOwn hookBefore callGetattribute boundAndCalled
  refine wpAny_bind (wpAny_of_eq (show (if onTheHeap (.type "super") then typeLookup (.type "super") "__getattr__" else pure none) = pure none from rfl) ?_)
  refine wpAny_bind (wpAny_attempt (wpAny_holding ?_))
  show wpAny _ _ (bindSpecial (.builtin "super.__getattribute__") (.ref so) >>= _) _ _ _
  refine wpAny_bind (wpAny_of_eq (PySem.F.ks_slot_super_ga.bind _) ?_)
  refine wpAny_mono (Q := fun v s' => v = .ref h.objs.size ∧ s' = ⟨h.push (bndN T id x), g, d, t + 1, os⟩) (E := fun _ _ => False)
    (wpAny_call_entry PySem.F.ks_slot_super_ga (hT _) PySem.F.ks_entry_super_ga (bb_super_ga hso hno hC hl X hf hty slot entry hargs (run _) hxC hn ⟨_, rfl, rfl, rfl⟩) (PySem.F.ks_gaArgs_super _ _)) (fun v s' hv => ?_) fun _ _ z => z.elim
  obtain ⟨rfl, rfl⟩ := hv
  exact wpAny_pure (wpAny_pure hq)

/-- a call of a built-in's slot, bound by super() -/
theorem bb_call_slot {q : Addr} {id : String} {Bi : Builtin} {args : List Value} {Q : Value → Shared → Prop} (hb : h.get? q = some (bndN "method-wrapper" id x)) (hk : builtinKind id = some .slot) (hqt : (Code.builtin id ⟨.ref x :: args, []⟩).quiet = true) (hpl : plainId id = true)
    (hargs : argsOk id ⟨.ref x :: args, []⟩) (entry : entryFor table id = some Bi)
    (run : wpAny (model prog w) A.in1 (Bi ⟨.ref x :: args, []⟩) (fun fin s' => ∃ v, fin = .done (.ret v) ∧ Q v s') E ⟨h, g, d, t, os⟩) :
    wpAny (model prog w) A (call (.ref q) args) Q E ⟨h, g, d, t, os⟩ := by
  refine wpAny_call (codeAny_of_tree ?_)
  show wpAny _ A.in1 (callAny (.ref q) _) _ _ _
  unfold callAny
  refine wpAny_bind (wpAny_load hb ?_)
  show wpAny _ _ (if (Value.type "method-wrapper" == .type "method" || Value.type "method-wrapper" == .type "builtin_function_or_method" || Value.type "method-wrapper" == .type "method-wrapper") = true then _ else _) _ _ _
  rw [if_pos (by decide +kernel)]
  show wpAny _ _ (if (Value.type "method-wrapper" != .type "method") = true then (checkBoundCall id ⟨.ref x :: args, []⟩ >>= fun _ => again (.builtin id ⟨.ref x :: args, []⟩)) else _) _ _ _
  rw [if_pos (by decide +kernel)]
  unfold checkBoundCall
  have fin : codeAny (model prog w) A (.builtin id ⟨.ref x :: args, []⟩) (fun r s' => match r with | .ok (.ret v) => Q v s' | .ok _ => False | .error e => E e s') ⟨h, g, d, t, os⟩ := by
    refine codeAny_builtin entry ?_
    rw [Around.under_plainId hpl _]
    exact wpAny_mono run (fun fin s' z => by obtain ⟨v, rfl, z⟩ := z; exact z) fun _ _ z => z
  unfold argsOk at hargs
  cases hsig : Manifest.signature? id with
  | none => exact wpAny_bind (wpAny_pure (wpAny_pure ⟨hqt, fin⟩))
  | some sig =>
    rw [hsig] at hargs
    dsimp only at hargs ⊢
    rw [hk]
    dsimp only
    rw [if_pos (by decide)]
    refine wpAny_bind ?_
    have h2 : Bind.checkArgs id sig ⟨.ref x :: args, []⟩ = pure () := hargs
    rw [h2]
    exact wpAny_pure (wpAny_pure ⟨hqt, fin⟩)
theorem pop_sig : Manifest.signature? "list.pop" = some ⟨.positional, "list.pop", "pop", .self, [⟨"index", .posOnly, false⟩]⟩ := by kernel_rfl
theorem pop_args (a : Value) : Bind.checkArgs "list.pop" ⟨.positional, "_Accumulator.pop", "pop", .self, [⟨"index", .posOnly, false⟩]⟩ ⟨[a], []⟩ = pure () := by kernel_rfl
theorem pop_plain : plainId "list.pop" = true := by decide +kernel
theorem pop_var : Manifest.varargsMethods.contains "list.pop" = false := by decide +kernel
/-- a call of list.pop, bound by super() -/
theorem bb_call_pop {q : Addr} {ox oC : Obj} {cd : ClassData} {Q : Value → Shared → Prop} (hb : h.get? q = some (bndN "builtin_function_or_method" "list.pop" x)) (hx : h.get? x = some ox) (hnc : ∀ c, ox.data ≠ .cls c) (hxc : ox.cls = .ref C)
    (hC : h.get? C = some oC) (hCd : oC.data = .cls cd) (hCt : oC.cls = .type "type") (hqn : cd.qualname.toString = "_Accumulator") (hmod : Looks (model prog w) h (isInstance (.ref x) (.type "module")) false)
    (run : wpAny (model prog w) A.in1 (Builtin.«list.pop» ⟨[.ref x], []⟩) (fun fin s' => ∃ v, fin = .done (.ret v) ∧ Q v s') E ⟨h, g, d, t, os⟩) :
    wpAny (model prog w) A (call (.ref q) []) Q E ⟨h, g, d, t, os⟩ := by
  refine wpAny_call (codeAny_of_tree ?_)
  show wpAny _ A.in1 (callAny (.ref q) _) _ _ _
  unfold callAny
  refine wpAny_bind (wpAny_load hb ?_)
  show wpAny _ _ (if (Value.type "builtin_function_or_method" == .type "method" || Value.type "builtin_function_or_method" == .type "builtin_function_or_method" || Value.type "builtin_function_or_method" == .type "method-wrapper") = true then _ else _) _ _ _
  rw [if_pos (by decide +kernel)]
  show wpAny _ _ (if (Value.type "builtin_function_or_method" != .type "method") = true then (checkBoundCall "list.pop" ⟨[.ref x], []⟩ >>= fun _ => again (.builtin "list.pop" ⟨[.ref x], []⟩)) else _) _ _ _
  rw [if_pos (by decide +kernel)]
  have fin : codeAny (model prog w) A (.builtin "list.pop" ⟨[.ref x], []⟩) (fun r s' => match r with | .ok (.ret v) => Q v s' | .ok _ => False | .error e => E e s') ⟨h, g, d, t, os⟩ := by
    refine codeAny_builtin PySem.F.entry_list_pop ?_
    rw [Around.under_plainId pop_plain _]
    exact wpAny_mono run (fun fin s' z => by obtain ⟨v, rfl, z⟩ := z; exact z) fun _ _ z => z
  unfold checkBoundCall
  rw [pop_sig]
  dsimp only
  rw [bk_pop]
  dsimp only
  rw [if_neg (by decide)]
  have ht : Looks (model prog w) h (typeOf (.ref x)) (.ref C) := by
    obtain ⟨c, dd, dt, sl⟩ := ox; cases hxc; exact (Looks.ld hx).andThen .now
  refine wpAny_bind ?_
  refine wpAny_bind (Looks.at hmod ?_)
  rw [pop_var]
  rw [if_neg (by decide)]
  refine wpAny_bind (ks_wpAny_isType_inst hx hnc ?_)
  rw [if_neg (by decide)]
  refine wpAny_bind (Looks.at ht ?_)
  dsimp only
  have hcd : Looks (model prog w) h (classData C) cd := by
    obtain ⟨c, dd, dt, sl⟩ := oC; cases hCd; exact (Looks.ld hC).andThen .now
  refine wpAny_bind (Looks.at hcd ?_)
  have htC : Looks (model prog w) h (typeOf (.ref C)) (.type "type") := by
    obtain ⟨c, dd, dt, sl⟩ := oC; cases hCt; exact (Looks.ld hC).andThen .now
  refine wpAny_bind (Looks.at htC ?_)
  rw [if_pos (by decide +kernel), hqn]
  have e : Bind.checkArgs "list.pop" ⟨.positional, s!"{("_Accumulator" : String)}.{Bind.lastOf "list.pop"}", "pop", .self, [⟨"index", .posOnly, false⟩]⟩ ⟨[.ref x], []⟩ = pure () := by kernel_rfl
  refine wpAny_of_eq e ?_
  exact wpAny_pure ⟨plainId_quiet pop_plain _, fin⟩
end

end
section
open PySem.Spec PySem.Calls Builtin
set_option maxHeartbeats 4000000
section
variable {prog : Program} {w : World} {M : Model} {A : Around} {E : Value → Shared → Prop} {h : Heap} {g : Array GenState} {d : Drawn} {t : Nat} {os : OsState} {x C dx : Addr}
theorem listObj_upd {vs us : List Value} {n : Nat} {f : Array Value → Array Value} (hf : f vs.toArray = us.toArray) : ∃ n', Obj.mapSeq f (listObj C dx vs n) = listObj C dx us n' := by
  refine ⟨if (us.length == vs.length) = true then n else n + 1, ?_⟩
  unfold Obj.mapSeq
  simp only [hf, List.size_toArray]
theorem upd_at {vs us : List Value} {n : Nat} {f : Array Value → Array Value} (hx : h.get? x = some (listObj C dx vs n)) (hf : f vs.toArray = us.toArray) : ∃ n', (h.update x (Obj.mapSeq f)).get? x = some (listObj C dx us n') := by
  obtain ⟨n', e⟩ := listObj_upd (C := C) (dx := dx) (n := n) hf
  exact ⟨n', by rw [← e]; exact Heap.get?_update_self _ hx (by rw [e]; rfl)⟩
theorem run_init {n : Nat} {Q : Fin → Shared → Prop} (hx : h.get? x = some (listObj C dx [] n))
    (k : ∀ n' h', Heap.SameBut x h h' → h'.get? x = some (listObj C dx [] n') → Q (.done (.ret .none)) ⟨h', g, d, t, os⟩) :
    wpAny (model prog w) A (Builtin.«list.__init__» ⟨[.ref x], []⟩) Q E ⟨h, g, d, t, os⟩ := by
  obtain ⟨n', e⟩ := upd_at (us := []) (f := fun _ => #[]) hx rfl
  have hu : ∀ A (Q : Unit → Shared → Prop) (E : Value → Shared → Prop), Q () ⟨h.update x (Obj.mapSeq fun _ => #[]), g, d, t, os⟩ → wpAny (model prog w) A (updateSeq x fun _ => #[]) Q E ⟨h, g, d, t, os⟩ := fun A Q E q =>
    wpAny_updateSeq (s := ⟨h, g, d, t, os⟩) hx rfl q (by simp) (by simp)
  unfold Builtin.«list.__init__» Builtin.List.listItems Builtin.List.listUpdate seqItems?
  repeat (first | (with_reducible refine hu _ _ _ ?_) | lk | wp_step | dsimp only)
  exact k _ _ (Heap.SameBut.update ..) e
theorem run_len {vs : List Value} {n : Nat} {Q : Fin → Shared → Prop} (hx : h.get? x = some (listObj C dx vs n))
    (k : Q (.done (.ret (.int vs.length t))) ⟨h, g, d, t + 1, os⟩) :
    wpAny (model prog w) A (Builtin.«list.__len__» ⟨[.ref x], []⟩) Q E ⟨h, g, d, t, os⟩ := by
  unfold Builtin.«list.__len__»
  repeat (first | lk | wp_step | dsimp only)
  rw [List.size_toArray]
  exact k
theorem run_append {vs : List Value} {v : Value} {n : Nat} {Q : Fin → Shared → Prop} (hx : h.get? x = some (listObj C dx vs n)) (hz : vs.length ≤ 1000)
    (k : ∀ n' h', Heap.SameBut x h h' → h'.get? x = some (listObj C dx (vs ++ [v]) n') → Q (.done (.ret .none)) ⟨h', g, d, t, os⟩) :
    wpAny (model prog w) A (Builtin.«list.append» ⟨[.ref x, v], []⟩) Q E ⟨h, g, d, t, os⟩ := by
  obtain ⟨n', e⟩ := upd_at (us := vs ++ [v]) (f := (·.push v)) hx (by simp)
  have hu : ∀ A (Q : Unit → Shared → Prop) (E : Value → Shared → Prop), Q () ⟨h.update x (Obj.mapSeq (·.push v)), g, d, t, os⟩ → wpAny (model prog w) A (updateSeq x (·.push v)) Q E ⟨h, g, d, t, os⟩ := fun A Q E q =>
    wpAny_updateSeq (s := ⟨h, g, d, t, os⟩) hx rfl q (by rw [List.size_toArray, sizeLine_eq]; omega) (by rw [Array.size_push, List.size_toArray, sizeLine_eq]; omega)
  unfold Builtin.«list.append» Builtin.List.listUpdate
  repeat (first | (with_reducible refine hu _ _ _ ?_) | lk | wp_step | dsimp only)
  exact k _ _ (Heap.SameBut.update ..) e
theorem run_pop {vs : List Value} {v : Value} {n : Nat} {Q : Fin → Shared → Prop} (hx : h.get? x = some (listObj C dx (vs ++ [v]) n)) (hz : vs.length ≤ 1000)
    (k : ∀ n' h', Heap.SameBut x h h' → h'.get? x = some (listObj C dx vs n') → Q (.done (.ret v)) ⟨h', g, d, t, os⟩) :
    wpAny (model prog w) A (Builtin.«list.pop» ⟨[.ref x], []⟩) Q E ⟨h, g, d, t, os⟩ := by
  obtain ⟨n', e⟩ := upd_at (us := vs) (f := (·.eraseIdxIfInBounds vs.length)) hx (by simp [Array.eraseIdxIfInBounds, List.eraseIdx_append_of_length_le])
  have hu : ∀ A (Q : Unit → Shared → Prop) (E : Value → Shared → Prop), Q () ⟨h.update x (Obj.mapSeq (·.eraseIdxIfInBounds vs.length)), g, d, t, os⟩ → wpAny (model prog w) A (updateSeq x (·.eraseIdxIfInBounds vs.length)) Q E ⟨h, g, d, t, os⟩ := fun A Q E q =>
    wpAny_updateSeq (s := ⟨h, g, d, t, os⟩) hx rfl q (by rw [List.size_toArray, sizeLine_eq]; simp; omega) (by rw [show (vs ++ [v]).toArray.eraseIdxIfInBounds vs.length = vs.toArray from by simp [Array.eraseIdxIfInBounds, List.eraseIdx_append_of_length_le], List.size_toArray, sizeLine_eq]; omega)
  unfold Builtin.«list.pop» Builtin.List.listItems Builtin.List.listUpdate seqItems?
  repeat (first | (with_reducible refine hu _ _ _ ?_) | lk | wp_step | dsimp only)
  have hk : ((seqIndex? (-1) (vs ++ [v]).toArray.size).bind fun k => Option.map (fun x => (k, x)) (vs ++ [v]).toArray[k]?) = some (vs.length, v) := by
    have e : seqIndex? (-1) (vs ++ [v]).toArray.size = some vs.length := by
      unfold seqIndex?
      simp
      omega
    rw [e]
    simp
  rw [hk]
  dsimp only
  refine wpAny_bind (hu _ _ _ ?_)
  exact wpAny_pure (k _ _ (Heap.SameBut.update ..) e)
end

end
section
open PySem.Spec PySem.Calls Builtin
set_option maxHeartbeats 4000000
section
variable {w : World} {A : Around} {E : Value → Shared → Prop} {s : Shared} {env : Env} {h₀ : Heap} {L : Addr} {m : Str → Option Value} {M : List (Addr × Obj)} {o : OsState} {d : Drawn} {mean : ExcName → Option Value} {mg mb : Str → Option Value} {x dx : Addr} {dt : Data} {fA : Str → Option Value} {c : Nat}
theorem acc_sub (w : World) : mroIn (hd.heap_1 w.params) 101 (.type "list") = some true := by kernel_rfl
theorem acc_opq (w : World) : nsIn (hd.heap_1 w.params) cStatics "thirdparty.any" = some none := by kernel_rfl
theorem at_meth {prog : Program} {cd : Code} {ob : Expr} {name : Str} {apos pos : Pos} {Q : Value → Shared → Prop}
    (h : _root_.PySem.wpAt (model prog w) A cd (attributeBase ob name env (eval ob env)) (fun ov s₁ => ∀ pl, wpAny (model prog w) A (getMethod ov name pl) (fun p s₂ => wpAny (model prog w) A (callWith pos p.1 p.2 (backTo pos (starEach [] env)) []) Q E s₂) E s₁) E s)
    (hline : (apos.endLine == pos.line) = true) :
    _root_.PySem.wpAt (model prog w) A cd (eval (.Call (.Attribute ob name apos) [] [] pos) env) Q E s := by
  rw [arm_eval_Call]
  refine _root_.PySem.wpAt_bind (ks_wpAt_mono h (fun ov s₁ h₁ => _root_.PySem.wpAt_of_wpAny ?_) fun _ _ e => e)
  refine wpAny_bind (wpAny_standAt ?_)
  have hform : methodCallForm (([] : List Expr).length + ([] : List Keyword).length) (backTo pos (starEach [] env)) (backToKw pos (keywordEach [] env)) = true := rfl
  have hpos : methodCallPos true ob env apos pos = pure pos := by unfold methodCallPos; simp [hline]
  unfold methodCall
  rw [hform]
  refine wpAny_bind (wpAny_holding (wpAny_mono (h₁ _) (fun p s₂ h₂ => ?_) fun _ _ e => e))
  exact wpAny_bind (wpAny_of_eq hpos h₂)
/-- super().name(..): the built-in's method, bound -/
theorem r_superM {body : List Stmt} {qn : Str} {scope : Scope} {p0 p1 apos pos : Pos} {name : Str} {f cda : Addr} {fd : FuncData} {ar : Arg} {vs : Array Value} {file : Str} {tf : Tok} {oc ccl cl : Value} {od cdd cld : Option Addr} {osl ccs csl : Array (Option Value)} {cdD : ClassData} {id gid DT T : String} {Bg : Builtin} {Q : Value → Shared → Prop}
    (S : Sat h₀ L m M o d s) (G : Gl w mean mg mb h₀) (I : Inst M x dx 101 dt fA c) (hv : m ar.arg = some (.ref x))
    (k : ∀ so q s', Sat h₀ L m ((q, bndN T id x) :: (so, ks_superObj 101 x 101) :: M) o d s' → wpAny (model PySem.Challenge.rw_xo0031_01.row.prog w) A (callWith pos (.ref q) [] (backTo pos (starEach [] (ksEnv qn scope L f (.ref cda) 25))) []) Q E s')
    (hf : (hd.heap_1 w.params).lookup f = some ⟨oc, od, .func fd, osl⟩) (hp : (fd.params.posonlyargs ++ fd.params.args).head? = some ar)
    (hcode : (hd.heap_1 w.params).lookup cda = some ⟨ccl, cdd, .fields vs, ccs⟩) (hvs : vs[2]? = some (.str file tf)) (hfile : (PySem.Challenge.rw_xo0031_01.row.prog.main.file == file) = true)
    (hcell : (hd.heap_1 w.params).lookup 25 = some ⟨cl, cld, .cell (some (.ref 101)), csl⟩) (hD : clsIn (hd.heap_1 w.params) 101 = some cdD) 
    (hks : scope.names.lookup ("super" : Str) = some .globalImplicit) (hkc : scope.names.lookup ("__class__" : Str) = some .free) (hka : scope.names.lookup ar.arg = some .local) (hk : scope.kind = .function)
    (hline : (apos.endLine == pos.line) = true) (hat : (name == ("__class__" : Str)) = false) (hal : alongIn (hd.heap_1 w.params) name ((cdD.mro.dropWhile (· != .ref 101)).drop 1) = some (some (.builtin id)))
    (hty : typeOf (.builtin id) = pure (.type DT)) (slot : Slot DT "__get__" gid) (entry : entryFor table gid = some Bg) (hargs : argsOk gid ⟨[.builtin id, .ref x, .ref 101], []⟩)
    (run : ∀ (h : Heap) g d t os A (Q : Fin → Shared → Prop) (E : Value → Shared → Prop), (∃ ox, h.get? x = some ox ∧ ox.cls = .ref 101) → Looks (model PySem.Challenge.rw_xo0031_01.row.prog w) h (isSubtype (.ref 101) (.type "list")) true →
      Q (.done (.ret (.ref h.objs.size))) ⟨h.push (bndN T id x), g, d, t, os⟩ → wpAny (model PySem.Challenge.rw_xo0031_01.row.prog w) A (Bg ⟨[.builtin id, .ref x, .ref 101], []⟩) Q E ⟨h, g, d, t, os⟩) :
    _root_.PySem.wpAt (model PySem.Challenge.rw_xo0031_01.row.prog w) A (.func body (ksEnv qn scope L f (.ref cda) 25)) (eval (.Call (.Attribute (.Call (.Name "super" p0) [] [] p1) name apos) [] [] pos) (ksEnv qn scope L f (.ref cda) 25)) Q E s := by
  obtain ⟨es, n, hdm, D⟩ := I.own
  refine at_meth ?_ hline
  refine ks_node (D := 101) (C := 101) S.fr G.kin S.nw G.top hf hp hv (instAt S I.obj hdm I.no) hcode hvs hfile hcell hD (by kernel_rfl) (by kernel_rfl) hat hks hkc hka hk (by kernel_rfl) (by boot_by_name) fun so h' F' N' hlt => ?_
  intro pl
  have S1 : Sat h₀ L m ((so, ks_superObj 101 x 101) :: M) o d { s with heap := h' } := ⟨F', N', by
    rw [List.map_cons, List.nodup_cons]
    refine ⟨fun hm => ?_, S.nd⟩
    obtain ⟨p, hp, e⟩ := List.mem_map.mp hm
    exact absurd (hlt p hp) (by rw [e]; exact Nat.lt_irrefl _), S.gb, S.os, S.dr⟩
  have X1 := G.kin.keeps S1.fr.keep
  have hx1 := S1.at (.tail _ I.obj)
  have hxC : x ≠ 101 := by
    intro e
    have h1 := (S1.nw _ (.tail _ I.obj)).2.2
    obtain ⟨ob, hob⟩ : ∃ ob, h₀.get? 101 = some ob := ⟨_, G.kin 101 _ (rfl : (hd.heap_1 w.params).lookup 101 = some _)⟩
    rw [e, hob] at h1; cases h1
  obtain ⟨hh, gg, dd, tt, oo⟩ := s
  refine bb_getMethod (h := h') (l₀ := cdD.mro) (S1.at (.head _)) (looks_opaque X1 (acc_opq w)) ?_ rfl X1 hal hty slot entry hargs (fun t A Q E hq => run _ _ _ _ _ _ _ _ ⟨_, hx1, rfl⟩ (looks_mroIn X1 (acc_sub w)) hq) hxC hat ?_
  · exact fun A Q E s k q => wpAny_bind ((looks_clsIn X1 hD) A _ E s k (wpAny_pure q))
  · exact k _ _ _ ((S1.push (bndN T id x)).tk (tt + 1))
end

end
section
open PySem.Spec PySem.Calls Builtin Builtin.ObjectAttr
set_option maxHeartbeats 4000000
section
variable {prog : Program} {w : World} {A : Around} {E : Value → Shared → Prop} {s : Shared} {K : Frag} {C x L dx : Addr} {h₀ : Heap} {m : Str → Option Value} {R : Result → Shared → Prop}
theorem refuse_list (v : Value) : refuseLoop v "__setattr__" [.type "list", .type "object"] = pure () := by kernel_rfl
theorem setL_open {ox : Obj} {od : Option Obj} {name : Str} {tk : Tok} {v : Value} {cd : ClassData} (X : K.In s.heap) (I : InstAt s.heap x ox C od) (hc : clsIn K C = some cd) (hm : cd.mro = [.ref C, .type "list", .type "object"]) (ht : takerIn K C name = some none)
    (h : ∀ b, wpAny (model prog w) A.in1 (storeInOwnDict (.ref x) (.ref C) (.str name tk) name v b)
      (fun fin s' => match fin with | .done f => R (.ok f) s' | .again c' => c'.quiet = true ∧ codeAny (model prog w) A c' R s') (fun e s' => R (.error e) s') s) :
    codeAny (model prog w) A (.call (.builtin "object.__setattr__") ⟨[.ref x, .str name tk, v], []⟩) R s := by
  have SF := PySem.F.store_object
  have sub : Looks (model prog w) s.heap (isInstance (.ref x) (.type "object")) true := I.type.andThen (looks_mroIn X (by unfold mroIn; rw [hc, Option.bind_some, hm]; simp))
  refine codeAny_call_builtin SF.slot.plain SF.entry (@check_slot (model prog w) _ _ s "object.__setattr__" "object" "__setattr__" (.ref x) [.str name tk, v] [] _ SF.kind SF.split sub (SF.args (.ref x) (.str name tk) v) ?_)
  obtain ⟨attr, ha, hr⟩ := Option.bind_eq_some_iff.mp ht
  have hmm : Looks (model prog w) s.heap (mroOf (.ref C)) cd.mro := (looks_clsIn X hc).andThen .now
  have L3 : Looks (model prog w) s.heap (storeTaker? attr) none := by
    cases attr with
    | none => exact .now
    | some a =>
      obtain ⟨b, hb, e⟩ := Option.map_eq_some_iff.mp hr
      refine (looks_takesIn X hb).andThen ?_
      cases b
      · exact .now
      · cases e
  rw [osa_eq, refuse_eq]
  refine wpAny_bind (wpAny_bind (I.type.here (wpAny_bind (hmm.here ?_))))
  rw [hm, refuseLoop_ref, refuse_list]
  refine wpAny_pure (wpAny_bind (I.type.here (wpAny_bind ((looks_findIn X ha).here (wpAny_bind (L3.here ?_))))))
  exact h _
theorem setL_dict {ox : Obj} {name : Str} {tk : Tok} {v : Value} {M : List (Addr × Obj)} {es : List DictEntry} {n : Nat} {cd : ClassData} (F : Fr h₀ L s.heap m) (N : News h₀ L s.heap M) (nd : (M.map (·.1)).Nodup) (X : K.In s.heap)
    (hm : (dx, dictOf es n) ∈ M) (I : InstAt s.heap x ox C (some (dictOf es n))) (hd : ox.dict = some dx) (hc : clsIn K C = some cd) (hmro : cd.mro = [.ref C, .type "list", .type "object"]) (ht : takerIn K C name = some none) (hh : cd.hasDict = true)
    (hl : (getL name es).isSome = true) (hz : es.length ≤ 900)
    (h : ∀ h', Fr h₀ L h' m → News h₀ L h' (chg M dx (dictOf (putL name (PyData.keyHash w.params name) (.str name s.toks) v es) (putN name es n))) → R (.ok (.ret .none)) { s with heap := h', toks := s.toks + 1 }) :
    codeAny (model prog w) A (.call (.builtin "object.__setattr__") ⟨[.ref x, .str name tk, v], []⟩) R s := by
  refine setL_open X I hc hmro ht fun b => ?_
  obtain ⟨pre, post, e1, e2, h1, h2⟩ := (upd_of (ob' := dictOf (putL name (PyData.keyHash w.params name) (.str name s.toks) v es) (putN name es n)) hm nd).split
  rw [e2] at h
  rw [e1] at N
  obtain ⟨U1, U2⟩ := news_upd (f := Obj.putName name (PyData.keyHash w.params name) (.str name s.toks) v) F N h1 h2 (putName_dict ..) rfl
  have D := (N (dx, dictOf es n) (by simp)).1
  have D' := (U2 (dx, _) (List.mem_append.mpr (.inr (.head _)))).1
  have hzl : (putL name (PyData.keyHash w.params name) (.str name s.toks) v es).length ≤ 901 := by have := putL_len name (PyData.keyHash w.params name) (.str name s.toks) v es; omega
  obtain ⟨hx, hcl, hn, -⟩ := I
  obtain ⟨oc, odi, oda, osl⟩ := ox
  dsimp only at hcl hd
  subst hcl hd
  refine wpAny_bind (wpAny_pure (wpAny_bind (wpAny_bind (wpAny_loadPart hx (wpAny_bind ((looks_clsIn X hc).here ?_))))))
  rw [hh]
  refine wpAny_pure (a := some dx) (wpAny_bind (wpAny_pure (wpAny_bind ?_)))
  unfold nsSet
  refine wpAny_bind (wpAny_bind (wpAny_askSetting (wpAny_pure (wpAny_bind (wpAny_mkText (wpAny_bind (wpAny_loadPart D ?_)))))))
  dsimp only
  have c : (!es.toArray.any (·.key.isStr name) && es.toArray.any (·.refKey)) = false := by
    rw [← Array.any_toList, ← Array.any_toList]
    unfold getL at hl
    split at hl
    · rename_i en he
      rw [List.any_eq_true.mpr ⟨en, List.mem_of_find?_eq_some he, List.find?_some he⟩]; rfl
    · split at hl
      · cases hl
      · rename_i z; rw [Bool.not_eq_true] at z; rw [z, Bool.and_false]
  rw [aRefKeyMayBeTheName_at, c]
  refine wpAny_updatePart D ?_
  refine wpAny_bind (wpAny_lookBehind D' (pastItsLine_dict (by rw [List.size_toArray, sizeLine_eq]; omega)) ?_)
  exact wpAny_pure (h _ U1 U2)
end

end
section
open PySem.Spec PySem.Calls Builtin Builtin.ObjectAttr
set_option maxHeartbeats 4000000
section
variable {prog : Program} {w : World} {A : Around} {E : Value → Shared → Prop} {s : Shared} {K : Frag} {C x L dx : Addr} {h₀ : Heap} {m : Str → Option Value} {name : Str} {ox : Obj} {od : Option Obj}
theorem getL_value {v : Value} {expr : Bool} {Q : Value → Shared → Prop} (X : K.In s.heap) (I : InstAt s.heap x ox C od) (hga : findIn K (.ref C) "__getattribute__" = some (some (.builtin "list.__getattribute__"))) (hk : findIn K (.ref C) "__getattr__" = some none)
    (hl : Looks (model prog w) s.heap (isSubtype (.ref C) (.type "list")) true) (hf : findObj K C od name = some (.value v)) (hh : handedIn v = true) (h : Q v { s with toks := s.toks + 1 }) : wpAny (model prog w) A (getAttr (.ref x) name expr) Q E s := by
  have L0 := I.type (M := model prog w)
  have L1 := looks_find (M := model prog w) X I hf
  refine wpAny_bind (wpAny_mkText (wpAny_holding (wpAny_bind (L0 _ _ _ _ (fun _ _ e => e) (wpAny_bind (looks_findIn X hga _ _ _ _ (fun _ _ e => e) ?_))))))
  dsimp only
  rw [show (onTheHeap (.ref C) && Value.builtin "list.__getattribute__" == Value.builtin "object.__getattribute__") = false from by rw [show (Value.builtin "list.__getattribute__" == Value.builtin "object.__getattribute__") = false from by decide +kernel, Bool.and_false], if_neg (by decide)]
  have hb : Looks (model prog w) s.heap (hookBefore (.ref C)) none := looks_findIn X hk
  refine wpAny_bind (hb _ _ _ _ (fun _ _ e => e) (wpAny_bind (wpAny_attempt (wpAny_holding ?_))))
  unfold callGetattribute
  rw [show (expr && onTheHeap (Value.builtin "list.__getattribute__")) = false from Bool.and_false _, if_neg (by decide)]
  unfold boundAndCalled
  rw [PySem.F.slot_list_getattribute.bind]
  refine wpAny_bind (wpAny_pure ?_)
  show wpAny _ _ (call (.builtin "list.__getattribute__") [.ref x, .str name s.toks]) _ _ _
  refine wpAny_call ?_
  refine codeAny_call_builtin PySem.F.slot_list_getattribute.plain am_entry_list_getattribute ?_
  refine @check_slot (model prog w) _ _ { s with toks := s.toks + 1 } "list.__getattribute__" "list" "__getattribute__" (.ref x) [.str name s.toks] [] _ (by decide +kernel) (by decide +kernel) (L0.andThen hl) (PySem.F.args_list_getattribute_2 _ _) ?_
  obtain ⟨hh', g, d, t, os⟩ := s
  refine wpAny_bind (wpAny_pure (wpAny_bind (wpAny_pure (wpAny_bind (L0.at (wpAny_bind (L1.at ?_)))))))
  refine wpAny_pure ?_
  dsimp only
  rw [handedOut_of hh]; exact wpAny_pure h
theorem methL_fn {f : Addr} {pl : Sem Bool} {Q : Value × List Value → Shared → Prop} (X : K.In s.heap) (I : InstAt s.heap x ox C od) (hga : findIn K (.ref C) "__getattribute__" = some (some (.builtin "list.__getattribute__"))) (hk : findIn K (.ref C) "__getattr__" = some none)
    (hf : findIn K (.ref C) name = some (some (.ref f))) (ht : typeIn K (.ref f) = some (.type "function")) (hs : shadowIn od name = some false) (h : Q (.ref f, [.ref x]) s) :
    wpAny (model prog w) A (getMethod (.ref x) name pl) Q E s := by
  have hcan := canon_list_getattribute
  unfold getMethod specialOf
  refine wpAny_bind (wpAny_bind (I.type.here ((looks_findIn X hga).here ?_)))
  dsimp only
  rw [hcan, if_neg (by decide)]
  refine wpAny_bind (wpAny_bind (I.type.here ((looks_findIn X hk).here ?_)))
  refine wpAny_bind (wpAny_bind (I.type.here ((looks_findIn X hf).here (wpAny_bind ((looks_typeIn X ht).here ?_)))))
  rw [if_neg (by decide +kernel)]
  refine wpAny_bind (wpAny_loadPart I.at_ ?_)
  have hd := I.dict
  cases e : ox.dict with
  | none => exact wpAny_bind (wpAny_rule (wpAny_pure h))
  | some dx =>
    cases od with
    | none => rw [e] at hd; exact hd.elim
    | some o =>
      rw [e] at hd
      obtain ⟨r, a, b⟩ := Option.map_eq_some_iff.mp hs
      refine wpAny_bind (wpAny_bind (wpAny_loadPart hd ?_))
      rw [nsLook_of a]
      refine wpAny_pure ?_
      rw [b]
      exact wpAny_bind (wpAny_rule (wpAny_pure h))
theorem methL_bi {id : String} {pl : Sem Bool} {Q : Value × List Value → Shared → Prop} (X : K.In s.heap) (I : InstAt s.heap x ox C od) (hga : findIn K (.ref C) "__getattribute__" = some (some (.builtin "list.__getattribute__"))) (hk : findIn K (.ref C) "__getattr__" = some none)
    (hf : findIn K (.ref C) name = some (some (.builtin id))) (ht : typeOf (.builtin id) = pure (.type "method_descriptor")) (hs : shadowIn od name = some false) (h : Q (.builtin id, [.ref x]) s) :
    wpAny (model prog w) A (getMethod (.ref x) name pl) Q E s := by
  have hcan := canon_list_getattribute
  unfold getMethod specialOf
  refine wpAny_bind (wpAny_bind (I.type.here ((looks_findIn X hga).here ?_)))
  dsimp only
  rw [hcan, if_neg (by decide)]
  refine wpAny_bind (wpAny_bind (I.type.here ((looks_findIn X hk).here ?_)))
  refine wpAny_bind (wpAny_bind (I.type.here ((looks_findIn X hf).here (wpAny_bind ((Looks.of_pure ht).here ?_)))))
  rw [if_neg (by decide +kernel)]
  refine wpAny_bind (wpAny_loadPart I.at_ ?_)
  have hd := I.dict
  cases e : ox.dict with
  | none => exact wpAny_bind (wpAny_rule (wpAny_pure h))
  | some dx =>
    cases od with
    | none => rw [e] at hd; exact hd.elim
    | some o =>
      rw [e] at hd
      obtain ⟨r, a, b⟩ := Option.map_eq_some_iff.mp hs
      refine wpAny_bind (wpAny_bind (wpAny_loadPart hd ?_))
      rw [nsLook_of a]
      refine wpAny_pure ?_
      rw [b]
      exact wpAny_bind (wpAny_rule (wpAny_pure h))
end

end
section
open PySem.Spec PySem.Calls Builtin
set_option maxHeartbeats 4000000
section
variable {prog : Program} {w : World} {A : Around} {E : Value → Shared → Prop} {s : Shared} {env : Env} {h₀ : Heap} {L : Addr} {m : Str → Option Value} {M : List (Addr × Obj)} {o : OsState} {d : Drawn} {mean : ExcName → Option Value} {mg mb : Str → Option Value} {b : Nat} {x dx : Addr} {dt : Data} {fA : Str → Option Value} {c : Nat}
/-- like r_codeH, for a function that asks super() -/
theorem r_codeHS {H : List (Addr × Obj)} {f : Addr} {fo : Obj} {fd : FuncData} {args : List Value} {binds : List (Str × Value)} {body : List Stmt} {Rt : Result → Shared → Prop}
    (R : Room A (b + 1)) (S : Sat h₀ L m (H ++ M) o d s) (G : Gl w mean mg mb h₀) (ho : s.heap.get? f = some fo) (hfo : fo.data = .func fd) (hb : fd.body = .stmts body) (hcd : s.heap.CodeRec fd.code fd.qualname)
    (hbind : BindsTo s fd ⟨args, []⟩ binds) (hc : ∀ x ∈ fd.scope.names, x.2 ≠ .cell) (hl : ∀ x ∈ binds, fd.scope.names.lookup x.1 = some .local)
    (hco : fd.scope.isCoroutine = false) (hgen : fd.scope.isGenerator = false) (hk : fd.scope.kind = .function)
    (k : ∀ A1 s', Room A1 b → Gl w mean mg mb (hideAll s.heap (keysOf H)) → Sat (hideAll s.heap (keysOf H)) s.heap.objs.size (fun x => binds.reverse.lookup x) H s.os s.drawn s' →
      _root_.PySem.wpAt (model prog w) A1 (.func body (callEnv fd s.heap.objs.size f)) (execs body (callEnv fd s.heap.objs.size f))
        (fun fl s'' => Rt (.ok (.ret (match fl with | .ret v => v | _ => .none))) s'') F0 s') :
    codeAny (model prog w) A (.call (.ref f) ⟨args, []⟩) Rt s := by
  refine ks_codeAny_call_defAt (by have := R.dep; omega) ho hfo (G.top.nolimit.keeps S.fr.keep) hcd hb hbind hc hl (fun h₁ hns hk₁ => ?_) hco hgen hk
  refine ks_wpAt_mono (k _ _ (R.deeper _) (G.hid S) ⟨⟨hns, fun b ob e => hk₁ b ob (of_hideAll _ e), by rw [hideAll_size]; exact Nat.le_refl _⟩, fun p hp => ?_, ?_, S.gb, rfl, rfl⟩) (fun _ _ z => z) fun _ _ z => z.elim
  · have e := (S.nw p (List.mem_append.mpr (.inl hp))).1
    exact ⟨hk₁ _ _ e, Nat.ne_of_lt (Heap.lt_size e), hideAll_none _ (List.mem_map_of_mem hp)⟩
  · have h := S.nd
    rw [List.map_append, List.nodup_append] at h
    exact h.1
theorem acc_cls (w : World) : ∃ cd, clsIn (hd.heap_1 w.params) 101 = some cd ∧ cd.mro = [.ref 101, .type "list", .type "object"] ∧ cd.hasDict = true ∧ cd.qualname.toString = "_Accumulator" := ⟨_, rfl, by kernel_rfl, by kernel_rfl, by kernel_rfl⟩
theorem r_setAL {name : Str} {v : Value} {Q : Unit → Shared → Prop} (S : Sat h₀ L m M o d s) (X : (hd.heap_1 w.params).In h₀) (I : Inst M x dx 101 dt fA c) (hz : c < 900)
    (k : ∀ M' s', Sat h₀ L m M' o d s' → Inst M' x dx 101 dt (fun y => if y = name then some v else fA y) (c + 1) → (∀ q ∈ M, q.1 ≠ dx → q ∈ M') → Q () s')
    (hs : findIn (hd.heap_1 w.params) (.ref 101) "__setattr__" = some (some (.builtin "object.__setattr__"))) (ht : takerIn (hd.heap_1 w.params) 101 name = some none) :
    wpAny (model prog w) A (setAttr (.ref x) name v) Q E s := by
  obtain ⟨es, n, hm, D⟩ := I.own
  obtain ⟨cd, hc, hmro, hd, -⟩ := acc_cls w
  have X1 := X.keeps S.fr.keep
  have IA := instAt S I.obj hm I.no
  refine set_plain X1 IA hs (setL_dict (s := { s with toks := s.toks + 1 }) S.fr S.nw S.nd X1 hm IA rfl hc hmro ht hd (by rw [D.look]; rfl) (by have := D.len; omega) fun h' F' N' => ?_)
  exact k _ _ ⟨F', N', by rw [chg_keys]; exact S.nd, S.gb, S.os, S.dr⟩ ⟨I.ne, I.no, chg_off I.obj I.ne, _, _, chg_mem hm, D.put _ _ _ _⟩ fun q hq hn => chg_off hq hn
theorem r_getAL {name : Str} {v : Value} {attr : Option Value} {expr : Bool} {Q : Value → Shared → Prop} (S : Sat h₀ L m M o d s) (X : (hd.heap_1 w.params).In h₀) (I : Inst M x dx 101 dt fA c) (hv : fA name = some v)
    (k : ∀ s', Sat h₀ L m M o d s' → Q v s') (ha : findIn (hd.heap_1 w.params) (.ref 101) name = some attr) (hn : noGet (hd.heap_1 w.params) attr = true) (hi : handedIn v = true) :
    wpAny (model prog w) A (getAttr (.ref x) name expr) Q E s := by
  obtain ⟨es, n, hm, D⟩ := I.own
  have X1 := X.keeps S.fr.keep
  exact getL_value X1 (instAt S I.obj hm I.no) (by kernel_rfl) (by kernel_rfl) (looks_mroIn X1 (acc_sub w)) (findObj_own (by kernel_rfl) ha hn (by show lookIn name (dictOf es n) = _; rw [lookIn_dict, D.look, hv])) hi (k _ (S.tk _))
theorem r_methAL {name : Str} {fa : Addr} {pl : Sem Bool} {Q : Value × List Value → Shared → Prop} (S : Sat h₀ L m M o d s) (X : (hd.heap_1 w.params).In h₀) (I : Inst M x dx 101 dt fA c) (hv : fA name = none)
    (k : Q (.ref fa, [.ref x]) s) (hf : findIn (hd.heap_1 w.params) (.ref 101) name = some (some (.ref fa))) (ht : isFn (hd.heap_1 w.params) (.ref fa) = true) :
    wpAny (model prog w) A (getMethod (.ref x) name pl) Q E s := by
  obtain ⟨es, n, hm, D⟩ := I.own
  have X1 := X.keeps S.fr.keep
  exact methL_fn X1 (instAt S I.obj hm I.no) (by kernel_rfl) (by kernel_rfl) hf (beq_iff_eq.mp ht) (by show (lookIn name (dictOf es n)).map _ = _; rw [lookIn_dict, D.look, hv]; rfl) k
theorem r_methBL {name : Str} {id : String} {pl : Sem Bool} {Q : Value × List Value → Shared → Prop} (S : Sat h₀ L m M o d s) (X : (hd.heap_1 w.params).In h₀) (I : Inst M x dx 101 dt fA c) (hv : fA name = none)
    (k : Q (.builtin id, [.ref x]) s) (hf : findIn (hd.heap_1 w.params) (.ref 101) name = some (some (.builtin id))) (ht : typeOf (.builtin id) = pure (.type "method_descriptor")) :
    wpAny (model prog w) A (getMethod (.ref x) name pl) Q E s := by
  obtain ⟨es, n, hm, D⟩ := I.own
  have X1 := X.keeps S.fr.keep
  exact methL_bi X1 (instAt S I.obj hm I.no) (by kernel_rfl) (by kernel_rfl) hf ht (by show (lookIn name (dictOf es n)).map _ = _; rw [lookIn_dict, D.look, hv]; rfl) k
/-- a call of what super() bound, no argument -/
theorem r_callB {pos : Pos} {q : Addr} {T id : String} {Q : Value → Shared → Prop} (hT : T = "method-wrapper" ∨ T = "builtin_function_or_method") (hq : s.heap.get? q = some (bndN T id x)) (h : wpAny (model prog w) A (call (.ref q) []) Q E s) :
    wpAny (model prog w) A (callWith pos (.ref q) [] (backTo pos (starEach [] env)) []) Q E s := by
  refine callWith_of (P := fun h => h.get? q = some (bndN T id x)) rfl (fun h e => ⟨.machine, .inr (.inl rfl), ?_⟩) (evalArgs_nil3 ⟨hq, h⟩)
  refine (Looks.ld (part := none) e).andThen ?_
  rcases hT with rfl | rfl <;> exact .now
end

end
section
open PySem.Spec PySem.Calls
open PyProof.Rows.LCg (lst lst_snoc)
/-- a carrier -/
noncomputable def accF (i : Int) (t : Tok) : Str → Option Value := fun y => if y = Str.ofString "_initial_size" then some (.int i t) else none
theorem Inst.turned {M : List (Addr × Obj)} {x dx C : Addr} {dt dt' : Data} {f : Str → Option Value} {c : Nat} (I : Inst M x dx C dt f c) (h : notCls (⟨.ref C, some dx, dt', #[]⟩ : Obj) = true) : Inst (chg M x ⟨.ref C, some dx, dt', #[]⟩) x dx C dt' f c := by
  obtain ⟨es, n, hm, D⟩ := I.own
  exact ⟨I.ne, h, chg_mem I.obj, es, n, chg_off hm (Ne.symm I.ne), D⟩
set_option maxHeartbeats 4000000 in
theorem acc_new {w : World} {A : Around} {E : Value → Shared → Prop} {s : Shared} {h₀ : Heap} {L : Addr} {m : Str → Option Value} {M : List (Addr × Obj)} {o : OsState} {d : Drawn} {mean : ExcName → Option Value} {mg mb : Str → Option Value} {i : Int} {t : Tok} {Q : Value → Shared → Prop}
    (R : Room A 4) (S : Sat h₀ L m M o d s) (G : Gl w mean mg mb h₀)
    (k : ∀ x dx n c s' N, Sat h₀ L m (N ++ M) o d s' → Inst N x dx 101 (.seq #[] n) (accF i t) c → c ≤ 10 → Q (.ref x) s') :
    wpAny (model PySem.Challenge.rw_xo0031_01.row.prog w) A (call (.ref 101) [.int i t]) Q E s := by
  refine r_makeL (fI := 38) S G (by kernel_rfl) (by kernel_rfl) (by kernel_rfl) fun x dx s1 S1 ho1 hd1 hne => ?_
  have R1 := (Room.under (b := 3) R 101 [.int i t])
  have ho := S1.fr.keep _ _ (G.kin 38 _ (rfl : (hd.heap_1 w.params).lookup 38 = some _))
  refine r_codeHS R1 S1 G ho rfl rfl (codeRec_of (K := (hd.heap_1 w.params)) (G.kin.keeps S1.fr.keep) (by kernel_rfl)) (binds := [(Str.ofString "self", .ref x), (Str.ofString "initial_size", .int i t)]) (binds_K (K := (hd.heap_1 w.params)) (G.kin.keeps S1.fr.keep) rfl rfl rfl rfl rfl) (by decide) (locs rfl) rfl rfl rfl ?_
  clear ho
  intro A1 s2 R2 G2 S2
  have hh1 := R2.hh
  have I0 : Inst [(x, listObj 101 dx [] 0), (dx, dictOf [] 0)] x dx 101 (.seq #[] 0) (fun _ => none) 0 := ⟨hne, rfl, .head _, _, _, .tail _ (.head _), Own.nil⟩
  simp only [callEnv, newEnv]
  refine ks_wpAt_execs_cons (_root_.PySem.wpAt_of_wpAny ?_)
  (repeat (tb_start; (try dsimp only)))
  refine r_setAL S2 G2.kin I0 (by decide) ?_ (by kernel_rfl) (by kernel_rfl)
  intro M3 s3 S3 I3 hM3
  (try dsimp only)
  refine ks_wpAt_execs_cons ?_
  refine ks_wpAt_Expr_any ?_ (by with_unfolding_all rfl) (by with_unfolding_all rfl)
  obtain ⟨cd, hc, hmro, hd, hqn⟩ := acc_cls w
  refine r_superM (id := "list.__init__") (DT := "wrapper_descriptor") (T := "method-wrapper") S3 G2 I3 (by tb_rel) (fun so q s4 S4 => ?_) (f := 38) rfl rfl rfl rfl (by kernel_rfl) rfl hc rfl rfl rfl rfl rfl (by decide +kernel) (by rw [hmro]; kernel_rfl) bb_ty_init bb_init_get bb_entry_w (bb_args_w _ _ _) (fun h g d t os A Q E hx hs hq => bb_get_w hx hs bb_own_init hq)
  have I4 : Inst ((q, bndN "method-wrapper" "list.__init__" x) :: (so, ks_superObj 101 x 101) :: M3) x dx 101 (.seq #[] 0) (accF i t) 1 := I3.sub fun p hp _ => .tail _ (.tail _ hp)
  refine r_callB (.inl rfl) (S4.at (.head _)) ?_
  obtain ⟨h4, g4, d4, t4, o4⟩ := s4
  refine bb_call_slot (S4.at (.head _)) bk_init (by with_unfolding_all rfl) (by decide +kernel) (PySem.F.args_list_init_1 _) PySem.F.entry_list_init (run_init (S4.at I4.obj) fun n' h' hs' hx' => ⟨_, rfl, ?_⟩)
  have S5 := S4.chg I4.obj hs' hx' t4
  refine _root_.PySem.wpAt_of_wpAny (wpAny_execs_nil ?_)
  refine ⟨rfl, k x dx n' 1 _ _ (S1.back S5) (I4.turned rfl) (by decide)⟩

end
section
open PySem.Spec PySem.Calls
open PyProof.Rows.LCg (lst lst_snoc)
set_option maxHeartbeats 4000000 in
theorem acc_count {w : World} {A : Around} {E : Value → Shared → Prop} {s : Shared} {h₀ : Heap} {L : Addr} {m : Str → Option Value} {M : List (Addr × Obj)} {o : OsState} {d : Drawn} {mean : ExcName → Option Value} {mg mb : Str → Option Value} {i : Int} {t : Tok} {x dx : Addr} {vs : List Value} {n c : Nat} {Q : Value → Shared → Prop}
    (R : Room A 2) (S : Sat h₀ L m M o d s) (G : Gl w mean mg mb h₀) (I : Inst M x dx 101 (.seq vs.toArray n) (accF i t) c)
    (k : ∀ t s', Sat h₀ L m M o d s' → Q (.int vs.length t) s') :
    wpAny (model PySem.Challenge.rw_xo0031_01.row.prog w) A (call (.ref 98) [.ref x]) Q E s := by
  have ho := S.fr.keep _ _ (G.kin 98 _ (rfl : (hd.heap_1 w.params).lookup 98 = some _))
  have Se : Sat h₀ L m (M ++ []) o d s := by rw [List.append_nil]; exact S
  refine wpAny_call (r_codeHS R Se G ho rfl rfl (codeRec_of (K := (hd.heap_1 w.params)) (G.kin.keeps S.fr.keep) (by kernel_rfl)) (binds := [(Str.ofString "self", .ref x)]) (BindsTo.of_eq rfl) (by decide) (locs rfl) rfl rfl rfl ?_)
  clear ho
  intro A1 s2 R2 G2 S2
  have hh1 := R2.hh
  simp only [callEnv, newEnv]
  refine ks_wpAt_execs_cons (ks_wpAt_Return_some ?_)
  obtain ⟨cd, hc, hmro, hd, hqn⟩ := acc_cls w
  refine r_superM (id := "list.__len__") (DT := "wrapper_descriptor") (T := "method-wrapper") S2 G2 I (by tb_rel) (fun so q s4 S4 => ?_) (f := 98) rfl rfl rfl rfl (by kernel_rfl) rfl hc rfl rfl rfl rfl rfl (by decide +kernel) (by rw [hmro]; kernel_rfl) bb_ty_len bb_init_get bb_entry_w (bb_args_w _ _ _) (fun h g d t os A Q E hx hs hq => bb_get_w hx hs bb_own_len hq)
  refine r_callB (.inl rfl) (S4.at (.head _)) ?_
  obtain ⟨h4, g4, d4, t4, o4⟩ := s4
  refine bb_call_slot (S4.at (.head _)) bk_len (by with_unfolding_all rfl) (by decide +kernel) (PySem.F.args_list_len_1 _) PySem.F.entry_list_len (run_len (S4.at (.tail _ (.tail _ I.obj))) ⟨_, rfl, ?_⟩)
  have S5 := S4.tk (t4 + 1)
  have S6 := Se.back S5
  rw [List.append_nil] at S6
  refine k _ _ (S6.sub (fun p hp => .tail _ (.tail _ hp)) S.nd)

end
section
open PySem.Spec PySem.Calls
open PyProof.Rows.LCg (lst lst_snoc)
set_option maxHeartbeats 4000000 in
theorem acc_pop {w : World} {A : Around} {E : Value → Shared → Prop} {s : Shared} {h₀ : Heap} {L : Addr} {m : Str → Option Value} {M : List (Addr × Obj)} {o : OsState} {d : Drawn} {mean : ExcName → Option Value} {mg mb : Str → Option Value} {i : Int} {t : Tok} {x dx : Addr} {vs : List Value} {n c : Nat} {Q : Value → Shared → Prop}
    (R : Room A 4) (S : Sat h₀ L m M o d s) (G : Gl w mean mg mb h₀) (I : Inst M x dx 101 (.seq vs.toArray n) (accF i t) c) (hz : vs.length ≤ 1000)
    (k0 : vs = [] → ∀ Tr t1 t2 s', Sat h₀ L m ((Tr, tpN [.str (T []) t1, .str (T []) t2]) :: M) o d s' → Q (.ref Tr) s')
    (k1 : ∀ us v, vs = us ++ [v] → ∀ n' s', Sat h₀ L m (chg M x (listObj 101 dx us n')) o d s' → Q v s') :
    wpAny (model PySem.Challenge.rw_xo0031_01.row.prog w) A (call (.ref 61) [.ref x]) Q E s := by
  have ho := S.fr.keep _ _ (G.kin 61 _ (rfl : (hd.heap_1 w.params).lookup 61 = some _))
  have Se : Sat h₀ L m (M ++ []) o d s := by rw [List.append_nil]; exact S
  refine wpAny_call (r_codeHS R Se G ho rfl rfl (codeRec_of (K := (hd.heap_1 w.params)) (G.kin.keeps S.fr.keep) (by kernel_rfl)) (binds := [(Str.ofString "self", .ref x)]) (BindsTo.of_eq rfl) (by decide) (locs rfl) rfl rfl rfl ?_)
  clear ho
  intro A1 s2 R2 G2 S2
  have hh1 := R2.hh
  simp only [callEnv, newEnv]
  refine ks_wpAt_execs_cons (ks_wpAt_If (_root_.PySem.wpAt_of_wpAny ?_))
  (repeat (tb_start; (try dsimp only)))
  refine r_meth ?_ (by with_unfolding_all rfl) (by with_unfolding_all rfl) rfl
  (repeat (tb_start; (try dsimp only)))
  intro pl
  refine r_methAL (fa := 98) S2 G2.kin I (by unfold accF; tb_rel) ?_ (by kernel_rfl) (by kernel_rfl)
  refine callWith_K0 (K := (hd.heap_1 w.params)) (G2.kin.keeps S2.fr.keep) (by kernel_rfl) ?_
  dsimp only [List.append_nil]
  refine acc_count (R2.less (by decide)) S2 G2 I fun t3 s3 S3 => ?_
  (repeat (tb_start; (try dsimp only)))
  rename_i t4 s4 S4
  split
  · rename_i h0
    have hv : vs = [] := by
      have : (vs.length : Int) = 0 := by simpa using h0
      exact List.length_eq_zero_iff.mp (by omega)
    refine ks_wpAt_execs_cons (_root_.PySem.wpAt_of_wpAny ?_)
    (repeat (tb_start; (try dsimp only)))
    refine r_tup ?_
    (repeat (tb_start; (try dsimp only)))
    refine ⟨by simp, _, _, _, _, _, _, by assumption, ?_⟩
    intro T0 s5 G5
    have S5 := Sat.grow (by assumption) G5
    have S6 := Se.back S5
    rw [List.append_nil] at S6
    exact k0 hv _ _ _ _ S6
  · rename_i h0
    have hv : vs ≠ [] := fun e => h0 (by rw [e]; simp)
    obtain ⟨us, v, rfl⟩ : ∃ us v, vs = us ++ [v] := ⟨_, _, (List.dropLast_concat_getLast hv).symm⟩
    refine _root_.PySem.wpAt_of_wpAny (wpAny_execs_nil ?_)
    dsimp only
    refine ks_wpAt_execs_cons (ks_wpAt_Return_some ?_)
    obtain ⟨cd, hc, hmro, hdd, hqn⟩ := acc_cls w
    refine r_superM (id := "list.pop") (DT := "method_descriptor") (T := "builtin_function_or_method") S4 G2 I (by tb_rel) (fun so q s4 S4 => ?_) (f := 61) rfl rfl rfl rfl (by kernel_rfl) rfl hc rfl rfl rfl rfl rfl (by decide +kernel) (by rw [hmro]; kernel_rfl) bb_ty_pop bb_meth_get bb_entry_m (bb_args_m _ _ _) (fun h g d t os A Q E hx hs hq => bb_get_m hx hs bb_own_pop (by decide +kernel) hq)
    refine r_callB (.inr rfl) (S4.at (.head _)) ?_
    obtain ⟨h4, g4, d4, t4, o4⟩ := s4
    have X4 := G2.kin.keeps S4.fr.keep
    have hCo := X4 101 _ (rfl : (hd.heap_1 w.params).lookup 101 = some _)
    have hmod : Looks (model PySem.Challenge.rw_xo0031_01.row.prog w) h4 (isInstance (.ref x) (.type "module")) false := ((Looks.ld (S4.at (.tail _ (.tail _ I.obj)))).andThen .now : Looks (model PySem.Challenge.rw_xo0031_01.row.prog w) h4 (typeOf (.ref x)) (.ref 101)).andThen (looks_mroIn X4 (by kernel_rfl))
    refine bb_call_pop (S4.at (.head _)) (S4.at (.tail _ (.tail _ I.obj))) (fun c e => by cases e) rfl hCo rfl rfl (by kernel_rfl) hmod (run_pop (S4.at (.tail _ (.tail _ I.obj))) (by simp at hz; omega) fun n' h' hs' hx' => ⟨_, rfl, ?_⟩)
    have S5 := S4.chg (.tail _ (.tail _ I.obj)) hs' hx' t4
    have S6 := Se.back S5
    rw [List.append_nil] at S6
    refine k1 us v rfl n' _ (S6.sub (fun p hp => ?_) (by rw [chg_keys]; exact S.nd))
    exact .tail _ (.tail _ hp)

end
section
open PySem.Spec PySem.Calls
open PyProof.Rows.LCg (lst lst_snoc)
theorem check_meth {M : Model} {A : Around} {E : Value → Shared → Prop} {s : Shared} {i owner n : String} {self : Value} {rest : List Value} {kw : List (Str × Value)} {Q : Unit → Shared → Prop}
    (hk : builtinKind i = some .method) (hs : splitId i = some (owner, n)) (hi : Looks M s.heap (isInstance self (.type owner)) true) (ha : argsOk i ⟨self :: rest, kw⟩) (q : Q () s) :
    wpAny M A (checkBuiltinCall i ⟨self :: rest, kw⟩) Q E s := by
  simp only [checkBuiltinCall, hk, hs]
  refine wpAny_bind (hi.here ?_)
  simp only [Bool.not_true, Bool.false_eq_true, if_false]
  cases hsig : Manifest.signature? i with
  | none => exact wpAny_pure q
  | some sig =>
    simp only [argsOk, hsig] at ha
    have h2 : Bind.checkArgs i sig ⟨self :: rest, kw⟩ = pure () := ha
    show wpAny M A (Bind.checkArgs i sig ⟨self :: rest, kw⟩) Q E s
    rw [h2]; exact wpAny_pure q
theorem callWith_bF {prog : Program} {w : World} {A : Around} {E : Value → Shared → Prop} {s : Shared} {env : Env} {pos : Pos} {id : String} {first : List Value} {e : Expr} {rest : List Expr} {Q : Value → Shared → Prop}
    (h : wpAny (model prog w) A (spliced (backTo pos (starEach (e :: rest) env))) (fun vs s₁ => wpAny (model prog w) A (call (.builtin id) (first ++ vs)) Q E s₁) E s)
    (he : starEach (e :: rest) env = (false, eval e env) :: starEach rest env := by with_unfolding_all rfl) (hpl : (backTo pos (starEach rest env)).any (·.1) = false := by with_unfolding_all rfl) :
    wpAny (model prog w) A (callWith pos (.builtin id) first (backTo pos (starEach (e :: rest) env)) []) Q E s := by
  rw [he] at h ⊢
  exact callWith_builtin (by show (false || (backTo pos (starEach rest env)).any (·.1)) = false; rw [hpl]; rfl) (evalArgs_plain h)
set_option maxHeartbeats 4000000 in
theorem acc_push {w : World} {A : Around} {E : Value → Shared → Prop} {s : Shared} {h₀ : Heap} {L : Addr} {m : Str → Option Value} {M : List (Addr × Obj)} {o : OsState} {d : Drawn} {mean : ExcName → Option Value} {mg mb : Str → Option Value} {i : Int} {t : Tok} {x dx : Addr} {vs : List Value} {n c : Nat} {a b : Value} {Q : Value → Shared → Prop}
    (R : Room A 2) (S : Sat h₀ L m M o d s) (G : Gl w mean mg mb h₀) (I : Inst M x dx 101 (.seq vs.toArray n) (accF i t) c) (hz : vs.length ≤ 1000)
    (k : ∀ Tp n' s', Sat h₀ L m ((Tp, tpN [a, b]) :: chg M x (listObj 101 dx (vs ++ [.ref Tp]) n')) o d s' → Q .none s') :
    wpAny (model PySem.Challenge.rw_xo0031_01.row.prog w) A (call (.ref 45) [.ref x, a, b]) Q E s := by
  have ho := S.fr.keep _ _ (G.kin 45 _ (rfl : (hd.heap_1 w.params).lookup 45 = some _))
  have Se : Sat h₀ L m (M ++ []) o d s := by rw [List.append_nil]; exact S
  refine r_callH R Se G ho rfl rfl (codeRec_of (K := (hd.heap_1 w.params)) (G.kin.keeps S.fr.keep) (by kernel_rfl)) (binds := [(Str.ofString "self", .ref x), (Str.ofString "fws", a), (Str.ofString "string", b)]) rfl (by decide) (locs rfl) rfl rfl rfl ?_
  clear ho
  intro A1 s2 R2 G2 S2
  have hh1 := R2.hh
  dsimp only [newEnv]
  (repeat (tb_start; (try dsimp only)))
  refine r_meth ?_ (by with_unfolding_all rfl) (by with_unfolding_all rfl) rfl
  (repeat (tb_start; (try dsimp only)))
  intro pl
  refine r_methBL (id := "list.append") S2 G2.kin I (by unfold accF; tb_rel) ?_ (by kernel_rfl) PySem.F.type_list_append
  refine callWith_bF ?_ (by with_unfolding_all rfl) (by with_unfolding_all rfl)
  (repeat (tb_start; (try dsimp only)))
  refine r_tup ?_
  (repeat (tb_start; (try dsimp only)))
  refine ⟨by simp, _, _, _, _, _, _, S2, ?_⟩
  intro Tp s5 G5
  have S5 := S2.grow G5
  (repeat (tb_start; (try dsimp only)))
  have X5 := G2.kin.keeps S5.fr.keep
  obtain ⟨h5, g5, d5, t5, o5⟩ := s5
  have hmod : Looks (model PySem.Challenge.rw_xo0031_01.row.prog w) h5 (isInstance (.ref x) (.type "list")) true := ((Looks.ld (S5.at (.tail _ I.obj))).andThen .now : Looks (model PySem.Challenge.rw_xo0031_01.row.prog w) h5 (typeOf (.ref x)) (.ref 101)).andThen (looks_mroIn X5 (acc_sub w))
  with_reducible refine wpAny_call (codeAny_call_builtin (by decide +kernel) PySem.F.entry_list_append (check_meth (s := ⟨h5, g5, d5, t5, o5⟩) (owner := "list") (n := "append") (by decide +kernel) (by decide +kernel) hmod (PySem.F.args_list_append_2 _ _) ?_))
  refine run_append (S5.at (.tail _ I.obj)) hz fun n' h' hs' hx' => ?_
  have S6 := S5.chg (.tail _ I.obj) hs' hx' t5
  have S7 := Se.back S6
  rw [List.append_nil] at S7
  have hne : Tp ≠ x := fun e => S5.off1 (oI := tpN [a, b]) I.obj e.symm
  rw [show ([(Tp, ({ cls := .type "tuple", data := .seq [a, b].toArray } : Obj))] ++ M) = (Tp, tpN [a, b]) :: M from rfl, chg_skip _ _ _ _ hne] at S7
  exact wpAny_execs_nil (k _ _ _ S7)

end
section
open PySem.Spec PySem.Calls
set_option maxHeartbeats 4000000
/-- what holds a sequence, of whatever class -/
noncomputable def SeqAtH (h : Heap) (a : Addr) (items : Array Value) : Prop := ∃ ol n, h.get? a = some ol ∧ ol.data = .seq items n
theorem SeqAtH.at {h h' : Heap} {a : Addr} {items : Array Value} (x : SeqAtH h a items) (k : ∀ o, h.get? a = some o → h'.get? a = some o) : SeqAtH h' a items := let ⟨o, n, e, d⟩ := x; ⟨o, n, k o e, d⟩
section
variable {prog : Program} {w : World} {A : Around} {E : Value → Shared → Prop} {s : Shared}
theorem nextS_item {it l : Addr} {i : Nat} {items : Array Value} {x : Value} {Q : Option Value → Shared → Prop} (hit : s.heap.IsListIter it l i)
    (hl : SeqAtH s.heap l items) (hx : items[i]? = some x)
    (hQ : ∀ h', h'.IsListIter it l (i + 1) → Heap.SameBut it s.heap h' → Q (some x) { s with heap := h' }) :
    wpAny (model prog w) A (pyNext (.ref it)) Q E s := by
  obtain ⟨o, ho, hc, hd⟩ := id hit
  obtain ⟨ol, nl, hol, hdl⟩ := hl
  unfold pyNext
  refine wpAny_bind (wpAny_attempt (wpAny_callSpecial?_slot (name := Str.ofString "__next__") hit.typeIs slot_listiter_next
    (wpAny_call_entry slot_listiter_next hit.typeIs entry_listiter_next ?_ (args_listiter_next _))))
  show wpAny _ _ (field (.ref it) 0 >>= _) _ _ s
  refine wpAny_bind (wpAny_field ho hd (x := .ref l) rfl ?_)
  show wpAny _ _ (if (Value.ref l == Value.none) = true then _ else _) _ _ s
  rw [if_neg (show ¬ ((Value.ref l == Value.none) = true) from Bool.false_ne_true)]
  show wpAny _ _ (field (.ref it) 1 >>= _) _ _ s
  refine wpAny_bind (wpAny_field ho hd (x := .int i 0) rfl ?_)
  show wpAny _ _ (seqItems? (.ref l) >>= _) _ _ s
  refine wpAny_bind (wpAny_seqItems hol hdl ?_)
  simp only [Int.toNat_natCast, hx]
  refine wpAny_bind (wpAny_setField ho hd (by simp) (wpAny_pure ⟨x, rfl, wpAny_pure (hQ _ ?_ (Heap.SameBut.update ..))⟩))
  exact ⟨_, Heap.get?_update_self _ ho (Obj.isFreed_of_fields (Obj.data_mapFields hd _)), (Obj.cls_mapFields ..).trans hc, by
    rw [Obj.data_mapFields hd]; simp [rawInt]⟩
theorem nextS_end {it l : Addr} {i : Nat} {items : Array Value} {Q : Option Value → Shared → Prop} (hh : A.handled = none)
    (hit : s.heap.IsListIter it l i) (hl : SeqAtH s.heap l items) (hx : items[i]? = none)
    (hQ : ∀ h', Heap.ExtBut it s.heap h' → Q none { s with heap := h' }) : wpAny (model prog w) A (pyNext (.ref it)) Q E s := by
  obtain ⟨o, ho, hc, hd⟩ := id hit
  obtain ⟨ol, nl, hol, hdl⟩ := hl
  unfold pyNext
  refine wpAny_bind (wpAny_attempt (wpAny_callSpecial?_slot (name := Str.ofString "__next__") hit.typeIs slot_listiter_next
    (wpAny_call_entry slot_listiter_next hit.typeIs entry_listiter_next ?_ (args_listiter_next _))))
  show wpAny _ _ (field (.ref it) 0 >>= _) _ _ s
  refine wpAny_bind (wpAny_field ho hd (x := .ref l) rfl ?_)
  show wpAny _ _ (if (Value.ref l == Value.none) = true then _ else _) _ _ s
  rw [if_neg (show ¬ ((Value.ref l == Value.none) = true) from Bool.false_ne_true)]
  show wpAny _ _ (field (.ref it) 1 >>= _) _ _ s
  refine wpAny_bind (wpAny_field ho hd (x := .int i 0) rfl ?_)
  show wpAny _ _ (seqItems? (.ref l) >>= _) _ _ s
  refine wpAny_bind (wpAny_seqItems hol hdl ?_)
  simp only [Int.toNat_natCast, hx]
  refine wpAny_bind (wpAny_rule (wpAny_bind (wpAny_setField ho hd (by simp) ?_)))
  show wpAny _ _ (newExc (.type "StopIteration") [] >>= _) _ _ _
  refine wpAny_bind ?_
  simp only [newExc, newTuple]
  refine wpAny_bind (wpAny_newObj_type ?_ (by size_fits))
  refine wpAny_bind (m := firstArgMember _ _) (wpAny_of_eq (a := Value.none) (by first | rfl | (simp only [firstArgMember]; rfl)) ?_)
  refine wpAny_newObj_type ?_ (by size_fits)
  simp only [raiseNew]
  refine wpAny_bind (wpAny_handled ?_)
  rw [show A.in1.handled = none from hh]
  refine wpAny_bind (wpAny_pure (wpAny_throw ?_))
  refine wpAny_bind (wpAny_isInstance (T := "StopIteration") (b := true) ⟨_, Heap.get?_push_size _ rfl, rfl⟩ isSubtype_stop ?_)
  exact wpAny_pure (hQ _ (((Heap.SameBut.update ..).extBut.push _).push _))
theorem walksU_sub (hh : A.handled = none) (I ax : Addr) (hne : ax ≠ I) (items : Array Value) (Ts : Nat → Addr) (vals : Nat → Array Value)
    (hit : ∀ j, j < items.size → items[j]? = some (.ref (Ts j))) (hTI : ∀ j, j < items.size → Ts j ≠ I) :
    WalksU prog w A I (I :: ax :: (List.range items.size).map Ts) [I] items.size (fun j v => v = vals j)
      (fun j h => h.IsListIter I ax j ∧ SeqAtH h ax items ∧ ∀ k, k < items.size → h.IsTuple (Ts k) (vals k))
      (fun j T h => (j < items.size ∧ T = Ts j) ∧ h.IsListIter I ax (j + 1) ∧ SeqAtH h ax items ∧ ∀ k, k < items.size → h.IsTuple (Ts k) (vals k)) where
  sub := fun b hb => by simp at hb; simp [hb]
  frame := fun _ _ _ st hk => ⟨st.1.at fun o e => hk I (by simp) o e, st.2.1.at fun o e => hk ax (by simp) o e,
    fun k hk' => (st.2.2 k hk').at fun o e => hk (Ts k) (List.mem_cons_of_mem _ (List.mem_cons_of_mem _ (List.mem_map.mpr ⟨k, List.mem_range.mpr hk', rfl⟩))) o e⟩
  item := fun i s Q E hi st hQ => by
    refine nextS_item st.1 st.2.1 (x := .ref (Ts i)) (hit i hi) fun h' hit' hs' => ?_
    have tup : ∀ k, k < items.size → h'.IsTuple (Ts k) (vals k) := fun k hk' => (st.2.2 k hk').extBut hs'.extBut (hTI k hk')
    exact hQ (Ts i) (vals i) h' s.toks rfl (tup i hi) ⟨⟨hi, rfl⟩, hit', st.2.1.at (fun o e => (hs'.2 _ hne).trans e), tup⟩ fun b o hb e => hs'.extBut b o (fun h => hb (by simp [h])) e
  go := fun _ _ _ _ _ s Q _ hm hQ => wpAny_letOwnedTupleGo_listiter hm.2.1 (hQ s.heap hm.2 fun _ _ _ e => e)
  apart := fun j T _ hm hmem => by
    rcases List.mem_cons.mp hmem with e | e
    · exact hTI j hm.1.1 (hm.1.2 ▸ e)
    · cases e
  done := fun s Q E st hQ => nextS_end hh st.1 st.2.1 (by simp) fun h' he' => hQ h' s.toks fun b o hb e => he' b o (fun h => hb (by simp [h])) e
  self := fun _ _ _ _ st hQ => wpAny_pyIter_listiter st.1 hQ
end

end
section
open PySem.Spec PySem.Calls
set_option maxHeartbeats 4000000
section
variable {prog : Program} {w : World} {A : Around} {E : Value → Shared → Prop} {s : Shared} {I : Addr} {fp wr : List Addr} {G : Array GenState → Array GenState → Prop} {n : Nat} {P : Nat → Value → Prop} {St : Nat → Shared → Prop}
noncomputable def shP (P : Nat → Value → Prop) : Nat → Value → Prop
  | 0, _ => False
  | i + 1, v => P i v
noncomputable def shS (St : Nat → Shared → Prop) : Nat → Shared → Prop
  | 0, _ => False
  | i + 1, s => St i s
noncomputable def shV (z : Int) (val : Nat → Int) : Nat → Int
  | 0 => z
  | i + 1 => val i
theorem preSum_sh (z : Int) (val : Nat → Int) : ∀ n, preSum (shV z val) (n + 1) = z + preSum val n
  | 0 => by simp [preSum, shV]
  | n + 1 => by rw [preSum, preSum_sh z val n, preSum]; simp [shV]; omega
theorem walks_shift (W : WalksS prog w A I fp wr G n P St) : WalksS prog w A I fp wr G (n + 1) (shP P) (shS St) where
  sub := W.sub
  grefl := W.grefl
  gtrans := W.gtrans
  frame := fun i s h' tk st ht hk => by
    cases i with
    | zero => exact st.elim
    | succ i => exact W.frame i s h' tk st ht hk
  item := fun i s Q E hi st hQ => by
    cases i with
    | zero => exact st.elim
    | succ i => exact W.item i s Q E (by omega) st fun v s' hp hst hm => hQ v s' hp hst hm
  done := fun s Q E st hQ => W.done s Q E st hQ
  self := fun i s Q E st hQ => by
    cases i with
    | zero => exact st.elim
    | succ i => exact W.self i s Q E st hQ
theorem sum_args2 (a b : Value) : argsOk "sum" ⟨[a, b], []⟩ := by unfold argsOk; kernel_rfl
theorem call_sum_start {x : Value} {z : Int} {tz : Tok} {Q : Value → Shared → Prop} (hz : -(2 ^ 63) ≤ z ∧ z < 2 ^ 63)
    (h : wpAny (model prog w) A.in1 (pyIter x) (fun it s₂ => ∃ I fp wr G n P St val, it = .ref I ∧ WalksS prog w A.in1 I fp wr G n P St ∧ St 0 s₂ ∧ (∀ b ∈ fp, b < s₂.heap.objs.size) ∧
      (∀ i v, P i v → ∃ t, v = .int (val i) t) ∧
      ∀ s' t', Moved wr G s₂ s' → Q (.int (z + preSum val n) t') s') E s) :
    wpAny (model prog w) A (call (.builtin "sum") [x, .int z tz]) Q E s := by
  refine call_function_tree PySem.F.kind_sum PySem.F.plain_sum PySem.F.entry_sum (sum_args2 _ _) ?_
  unfold Builtin.«sum»
  simp only [List.length_cons, List.length_nil]
  rw [if_neg (by decide)]
  refine wpAny_bind (wpAny_of_eq (show Builtin.Builtins.bindParams "sum" ["start"] 0 ⟨[.int z tz], []⟩ = pure [some (.int z tz)] from rfl) ?_)
  refine wpAny_bind (wpAny_mono h (fun it s₂ h₂ => ?_) fun _ _ e => e)
  obtain ⟨I, fp, wr, G, n, P, St, val, rfl, W, hst, hfp, hval, hQ⟩ := h₂
  have hz' : (decide (-(2 ^ 63) ≤ z) && decide (z < 2 ^ 63)) = true := by simpa using hz
  dsimp only
  split
  case isFalse hq => exact absurd hz' hq
  refine wpAny_bind (wpAny_rule ?_)
  refine wpAny_bind (wpAny_mkInt ?_)
  refine wpAny_bind (wpAny_pure ?_)
  simp only [List.forIn_cons, List.forIn_nil]
  refine wpAny_bind (wpAny_bind (wpAny_bind (wpAny_isInstance (T := "int") (b := false) (typeIs_int _ _ _) PySem.sub_int_str ?_)))
  simp only [Bool.false_eq_true, if_false]
  refine wpAny_pure (wpAny_bind (wpAny_bind (wpAny_isInstance (T := "int") (b := false) (typeIs_int _ _ _) PySem.sub_int_bytes ?_)))
  simp only [Bool.false_eq_true, if_false]
  refine wpAny_pure (wpAny_bind (wpAny_bind (wpAny_isInstance (T := "int") (b := false) (typeIs_int _ _ _) PySem.sub_int_bytearray ?_)))
  simp only [Bool.false_eq_true, if_false]
  refine wpAny_pure (wpAny_pure ?_)
  refine wpAny_bind (wpAny_newObj_type ?_)
  have hSf : s₂.heap.objs.size ∉ fp := fun hm => Nat.lt_irrefl _ (hfp _ hm)
  refine wpAny_pure ⟨plainId_quiet PySem.F.plain_sum_loop _, codeAny_sum_loopAnyS (walks_shift W) (shV z val) (fun i v hv => ?_) s₂.heap.objs.size hSf (n + 1 - 1) 1 _ s₂.toks 0 0 (.inl rfl) rfl (by omega)
    (W.frame 0 s₂ _ _ hst (by first | exact Nat.le_refl _ | exact Nat.le_succ _ | omega) fun b _ o e => Heap.get?_push_of_some _ e) (?_) fun s' t' hm => ?_⟩
  · cases i with
    | zero => exact hv.elim
    | succ i => exact hval i v hv
  · rw [show preSum (shV z val) 1 = z from by simp [preSum, shV]]
    exact Heap.get?_push_size _ rfl
  · rw [preSum_sh]
    exact hQ s' t' (hm.drop_new (by first | exact Nat.le_refl _ | exact Nat.le_succ _ | omega))
end

end
section
open PySem.Spec PySem.Calls
set_option maxHeartbeats 4000000
section
variable {w : World} {A : Around} {E : Value → Shared → Prop} {s : Shared} {h₀ : Heap} {L : Addr} {m : Str → Option Value} {M : List (Addr × Obj)} {o : OsState} {d : Drawn} {mean : ExcName → Option Value} {mg mb : Str → Option Value} {x dx : Addr} {dt : Data} {fA : Str → Option Value} {c : Nat}
theorem acc_iter {Q : Value → Shared → Prop} (S : Sat h₀ L m M o d s) (G : Gl w mean mg mb h₀) (I : Inst M x dx 101 dt fA c)
    (k : Q (.ref s.heap.objs.size) { s with heap := s.heap.push { cls := .type "list_iterator", data := .fields #[.ref x, .int 0 0] } }) :
    wpAny (model PySem.Challenge.rw_xo0031_01.row.prog w) A (pyIter (.ref x)) Q E s := by
  have X := G.kin.keeps S.fr.keep
  have hx := S.at I.obj
  have L0 : Looks (model PySem.Challenge.rw_xo0031_01.row.prog w) s.heap (typeOf (.ref x)) (.ref 101) := (Looks.ld hx).andThen .now
  have L1 : Looks (model PySem.Challenge.rw_xo0031_01.row.prog w) s.heap (typeLookup (.ref 101) "__iter__") (some (.builtin "list.__iter__")) := looks_findIn X (by kernel_rfl)
  have Ls : Looks (model PySem.Challenge.rw_xo0031_01.row.prog w) s.heap (isInstance (.ref x) (.type "list")) true := L0.andThen (looks_mroIn X (acc_sub w))
  have L2 : Looks (model PySem.Challenge.rw_xo0031_01.row.prog w) s.heap (specialOf (.ref x) "__iter__") (some (.builtin "list.__iter__")) := L0.andThen L1
  obtain ⟨hh, g, dd, t, os⟩ := s
  unfold pyIter
  refine wpAny_bind (L2.at ?_)
  dsimp only
  simp only [callSpecialIfBoundUnlessNone?, bindSpecialIfBound?]
  refine wpAny_bind (wpAny_holding (wpAny_bind (wpAny_bind (L2.at ?_))))
  simp only [slot_list_iter.bind]
  have hc : wpAny (model PySem.Challenge.rw_xo0031_01.row.prog w) A (call (.builtin "list.__iter__") [.ref x]) (fun v s' => v = .ref hh.objs.size ∧ s' = ⟨hh.push { cls := .type "list_iterator", data := .fields #[.ref x, .int 0 0] }, g, dd, t, os⟩) E ⟨hh, g, dd, t, os⟩ := by
    refine wpAny_call (codeAny_call_builtin slot_list_iter.plain entry_list_iter (check_slot (s := ⟨hh, g, dd, t, os⟩) (owner := "list") (n := "__iter__") (by decide +kernel) (by decide +kernel) Ls (args_list_iter _) ?_))
    show wpAny _ _ (do ret (← newFields "list_iterator" [.ref x, rawInt 0])) _ _ _
    exact wpAny_bind (wpAny_newObj_type (wpAny_pure ⟨rfl, rfl⟩))
  have fin : ∀ (refuse : Sem Value), wpAny (model PySem.Challenge.rw_xo0031_01.row.prog w) A (if (Value.builtin "list.__iter__" == Value.none) = true then (refuse >>= fun v => pure (some v)) else (call (.builtin "list.__iter__") [.ref x] >>= fun v => pure (some v)))
      (fun v s' => v = some (.ref hh.objs.size) ∧ s' = ⟨hh.push { cls := .type "list_iterator", data := .fields #[.ref x, .int 0 0] }, g, dd, t, os⟩) E ⟨hh, g, dd, t, os⟩ := by
    intro refuse
    simp only [builtin_beq_none, Bool.false_eq_true, if_false]
    exact wpAny_bind (wpAny_mono hc (fun v s' h' => wpAny_pure ⟨by rw [h'.1], h'.2⟩) fun _ _ h' => h')
  refine wpAny_bind (wpAny_askSetting (wpAny_ite ?_))
  split
  · refine wpAny_bind (wpAny_pure (wpAny_pure (wpAny_mono (fin _) (fun v s' hv => ?_) fun _ _ h' => h')))
    obtain ⟨rfl, rfl⟩ := hv
    exact wpAny_bind (wpAny_specialOf ⟨_, Heap.get?_push_size _ rfl, rfl⟩ slot_listiter_next.lookup (wpAny_pure k))
  · refine wpAny_tryCatch (wpAny_bind (wpAny_pure (wpAny_pure (wpAny_mono (fin _) (fun v s' hv => ?_) fun _ _ h' => h'))))
    obtain ⟨rfl, rfl⟩ := hv
    exact wpAny_bind (wpAny_specialOf ⟨_, Heap.get?_push_size _ rfl, rfl⟩ slot_listiter_next.lookup (wpAny_pure k))
end

end
section
open PySem.Spec PySem.Calls
set_option maxHeartbeats 4000000
section
variable {prog : Program} {w : World} {A : Around} {E : Value → Shared → Prop} {s : Shared} {env : Env} {h₀ : Heap} {L : Addr} {m : Str → Option Value} {M : List (Addr × Obj)} {o : OsState} {d : Drawn}
/-- the code of a generator expression; the table of its function's code record may grow -/
theorem r_gcode {c P : Addr} {ps : Array Value} {pos : Pos} {qn : Str} {scope : Scope} {Q : Value → Shared → Prop} (S : Sat h₀ L m M o d s) (hc : env.code = .ref c) (C : CodeHd h₀ c P) (hm : (P, tabObj ps) ∈ M) (ht : TriplesOk ps.toList)
    (k : ∀ code ps' s', Sat h₀ L m (chg M P (tabObj ps')) o d s' → TriplesOk ps'.toList → Q code s') :
    wpAny (model prog w) A (genexprCode env pos qn scope) Q E s := by
  have hP := S.at hm
  have C' := C.keeps S.fr.keep
  cases hnf : codeAmong pos ps.toList with
  | some cv =>
    refine wpAny_genexprCode_hit hc (C'.code hP ht) hnf (k cv ps s ?_ ht)
    have e : chg M P (tabObj ps) = M := by
      unfold chg
      conv => rhs; rw [← List.map_id M]
      refine List.map_congr_left fun q hq => ?_
      by_cases h : q.1 = P
      · rw [if_pos h]
        have h1 := S.at hq
        rw [h, hP] at h1
        obtain ⟨qa, qo⟩ := q
        dsimp only at h h1
        subst h
        rw [Option.some.inj h1]; rfl
      · rw [if_neg h]; rfl
    rw [e]; exact S
  | none =>
    refine wpAny_genexprCodeX hc (C'.code hP ht) (C'.tab hP) hnf fun c' h' tk hx hge hlt hok hrec htab hP' => k _ (ps ++ #[rawInt pos.line, rawInt pos.col, .ref c']) _ ?_ ?_
    · refine ⟨⟨S.fr.ns.extBut hx (S.nw _ hm).2.1.symm, fun b ob e => hx b ob (fun q => by rw [q, (S.nw _ hm).2.2] at e; cases e) (S.fr.keep b ob e), S.fr.above⟩, fun p hp => ?_, by rw [chg_keys]; exact S.nd, S.gb, S.os, S.dr⟩
      obtain ⟨q, hq, rfl⟩ := List.mem_map.mp hp
      by_cases h : q.1 = P
      · rw [if_pos h]
        exact ⟨htab.2, (S.nw _ hm).2⟩
      · rw [if_neg h]
        exact ⟨hx _ _ h (S.nw q hq).1, (S.nw q hq).2⟩
    · obtain ⟨_, _, _, _, _, _, _, _, _, _, _, _, _, _, _, _, _, _, hpd, htr, _⟩ := hok
      exact htr
end

end
section
open PySem.Spec PySem.Calls
set_option maxHeartbeats 4000000
section
variable {w : World} {A : Around} {E : Value → Shared → Prop} {s : Shared} {mean : ExcName → Option Value} {mg mb : Str → Option Value}
theorem len_name {cenv : Env} {pos : Pos} {Q : Value → Shared → Prop} (G : Gl w mean mg mb s.heap) (hk : cenv.scope.kind = .function) (hx : cenv.kindOf (Str.ofString "len") = some .globalImplicit) (hg : cenv.globals = mainGlobals) (hbb : cenv.builtins = builtinsNs) (k : Q (.builtin "len") s) :
    wpAny (model PySem.Challenge.rw_xo0031_01.row.prog w) A (eval (.Name (Str.ofString "len") pos) cenv) Q E s := by
  refine wpAny_Name ?_ (by decide +kernel)
  rw [loadName_read hk hx]
  exact loadGlobal_builtin (hg ▸ G.top.g) (mg_none_of G.kin G.top.g (by kernel_rfl)) (hbb ▸ G.top.b) ((G.top.builtins _ (by decide +kernel)).trans (by boot_by_name)) k
/-- len(fws) + len(part) -/
theorem acc_elt {cenv : Env} {m₂ : Str → Option Value} {c : Nat} {t1 t2 : Tok} {p1 p2 p3 p4 p5 p6 p7 : Pos} (G : Gl w mean mg mb s.heap) (hns : s.heap.Ns cenv.locals m₂) (h1 : m₂ (Str.ofString "fws") = some (.str (T []) t1)) (h2 : m₂ (Str.ofString "part") = some (.str (T [c]) t2))
    (hk : cenv.scope.kind = .function) (hx : cenv.kindOf (Str.ofString "len") = some .globalImplicit) (hg : cenv.globals = mainGlobals) (hbb : cenv.builtins = builtinsNs) (hf : cenv.kindOf (Str.ofString "fws") = some .local) (hp : cenv.kindOf (Str.ofString "part") = some .local) :
    wpAny (model PySem.Challenge.rw_xo0031_01.row.prog w) A (eval (.BinOp (.Call (.Name (Str.ofString "len") p1) [.Name (Str.ofString "fws") p2] [] p3) .Add (.Call (.Name (Str.ofString "len") p4) [.Name (Str.ofString "part") p5] [] p6) p7) cenv)
      (fun y s₃ => (∃ t, y = .int 1 t) ∧ Keeps s s₃) E s := by
  refine wpAny_BinOp ?_
  refine wpAny_Call_NameR ?_
  refine len_name G hk hx hg hbb ?_
  refine PyProof.Rows.callWith_builtin1 ?_ (by with_unfolding_all rfl) (by with_unfolding_all rfl)
  refine spliced_more ?_ (by with_unfolding_all rfl)
  refine wpAny_Name (wpAny_loadName_local hk hf hns h1 ?_) (by decide +kernel)
  refine spliced_none ?_
  refine SBL.len (by rw [T_length]; simp) ?_
  refine wpAny_Call_NameR ?_
  refine len_name G hk hx hg hbb ?_
  refine PyProof.Rows.callWith_builtin1 ?_ (by with_unfolding_all rfl) (by with_unfolding_all rfl)
  refine spliced_more ?_ (by with_unfolding_all rfl)
  refine wpAny_Name (wpAny_loadName_local hk hp hns h2 ?_) (by decide +kernel)
  refine spliced_none ?_
  refine SBL.len (by rw [T_length]; simp) ?_
  refine add_int ?_
  refine ⟨⟨_, rfl⟩, _, _, rfl, fun _ _ e => e⟩
end

end
section
open PySem.Spec PySem.Calls
set_option maxHeartbeats 4000000
/-- what a carrier holds: pairs of an empty text and a sign -/
structure Held (M : List (Addr × Obj)) (vs : List Value) (ps : List (Addr × Tok × Nat × Tok)) : Prop where
  eq : vs = ps.map fun p => .ref p.1
  at_ : ∀ p ∈ ps, (p.1, tpN [.str (T []) p.2.1, .str (T [p.2.2.1]) p.2.2.2]) ∈ M
section
variable {w : World} {A : Around} {E : Value → Shared → Prop} {s : Shared} {env : Env} {h₀ : Heap} {L : Addr} {m : Str → Option Value} {M : List (Addr × Obj)} {o : OsState} {d : Drawn} {mean : ExcName → Option Value} {mg mb : Str → Option Value} {x dx : Addr} {fA : Str → Option Value} {c n : Nat} {vs : List Value}
theorem r_builtinsFor {run : Addr} {Q : Addr → Shared → Prop} (G : Gl w mean mg mb s.heap) (k : Q builtinsNs s) : wpAny (model PySem.Challenge.rw_xo0031_01.row.prog w) A (builtinsFor mainGlobals run) Q E s := by
  obtain ⟨bm, ob, b1, b2, b3, b4, b5, b6⟩ := G.top.bmain
  exact wpAny_builtinsFor G.top.g b1 b2 b3 b4 b5 b6 k
end

end
section
open PySem.Spec PySem.Calls
set_option maxHeartbeats 4000000
section
variable {prog : Program} {w : World} {A : Around} {s s' : Shared} {h₀ : Heap} {L : Addr} {m : Str → Option Value} {M : List (Addr × Obj)} {o : OsState} {d : Drawn}
/-- a walk that writes only above N keeps what lies below -/
theorem Sat.moved {wr : List Addr} {g N : Nat} (S : Sat h₀ L m M o d s) (hm : Moved wr (GenOnlyQ g) s s') (hw : ∀ b ∈ wr, N ≤ b) (hN : ∀ p ∈ M, p.1 < N) (hL : L < N) : Sat h₀ L m M o d s' := by
  have low : ∀ b ob, b < N → s.heap.get? b = some ob → s'.heap.get? b = some ob := fun b ob hb e => hm.heap b ob (fun h => absurd (hw b h) (by omega)) e
  refine ⟨⟨S.fr.ns.at fun ob e => low L ob hL e, fun b ob e => low b ob ?_ (S.fr.keep b ob e), S.fr.above⟩, fun p hp => ⟨low _ _ (hN p hp) (S.nw p hp).1, (S.nw p hp).2⟩, S.nd, S.gb.movedS hm, hm.os.trans S.os, hm.drawn.trans S.dr⟩
  exact Nat.lt_of_lt_of_le (Heap.lt_size e) (Nat.le_trans S.fr.above (Nat.le_of_lt hL))
end

end
section
open PySem.Spec PySem.Calls
set_option maxHeartbeats 4000000
section
variable {w : World} {A : Around} {E : Value → Shared → Prop} {s : Shared} {env : Env} {h₀ : Heap} {L : Addr} {m : Str → Option Value} {M : List (Addr × Obj)} {o : OsState} {d : Drawn} {mean : ExcName → Option Value} {mg mb : Str → Option Value} {x dx : Addr} {fA : Str → Option Value} {c n : Nat} {vs : List Value}
/-- the generator expression of __len__ -/
theorem r_genAcc {ps : Array Value} {hp : List (Addr × Tok × Nat × Tok)} {p1 p2 p3 p4 p5 p6 p7 pa pb pt pi pos : Pos} {kt : Nat} {scope : Scope} {Q : Value → Shared → Prop}
    (hh : A.handled = none) (hroom : A.depth < recursionLimit) (S : Sat h₀ L m M o d s) (hL : env.locals = L) (G : Gl w mean mg mb h₀) (I : Inst M x dx 101 (.seq vs.toArray n) fA c) (H : Held M vs hp)
    (hself : m (Str.ofString "self") = some (.ref x)) (hkE : env.scope.kind = .function) (hsl : env.kindOf (Str.ofString "self") = some .local) (hcode : env.code = .ref 67) (hglob : env.globals = mainGlobals) (C : CodeHd h₀ 67 63) (hm : (63, tabObj ps) ∈ M) (ht : TriplesOk ps.toList)
    (hco : scope.isCoroutine = false) (hclos : closureFor scope env = pure []) (hcell : ∀ y ∈ scope.names, y.2 ≠ .cell) (h0 : scope.names.lookup (".0" : Str) = some NameKind.local)
    (hxa : scope.names.lookup (Str.ofString "fws") = some .local) (hxb : scope.names.lookup (Str.ofString "part") = some .local) (hab : Str.ofString "fws" ≠ Str.ofString "part") (hkind : scope.kind = .function) (hlen : scope.names.lookup (Str.ofString "len") = some .globalImplicit)
    (hs : ∀ v, genFold (.Name (Str.ofString "self") pi) env v = pure v)
    (k : ∀ a tab' s' fp wr g nn P St, Sat h₀ L m (chg M 63 (tabObj tab')) o d s' → TriplesOk tab'.toList → WalksS PySem.Challenge.rw_xo0031_01.row.prog w A.in4 a fp wr (GenOnlyQ g) nn P St → nn = vs.length → (∀ i v, P i v → ∃ t, v = .int 1 t) → St 0 s' → (∀ b ∈ fp, b < s'.heap.objs.size) → (∀ b ∈ wr, s.heap.objs.size ≤ b) → Q (.ref a) s') :
    wpAny (model PySem.Challenge.rw_xo0031_01.row.prog w) A (eval (.GeneratorExp (.BinOp (.Call (.Name (Str.ofString "len") p1) [.Name (Str.ofString "fws") p2] [] p3) .Add (.Call (.Name (Str.ofString "len") p4) [.Name (Str.ofString "part") p5] [] p6) p7) [⟨.Tuple [.Name (Str.ofString "fws") pa, .Name (Str.ofString "part") pb] kt pt, .Name (Str.ofString "self") pi, [], 0⟩] scope pos) env) Q E s := by
  subst hL
  have hlt : ∀ p ∈ M, p.1 < s.heap.objs.size := fun p hp => Heap.lt_size (S.at hp)
  have hLs : env.locals < s.heap.objs.size := S.fr.ns.lt
  refine wpAny_GeneratorExp_walksQTD hh hco hclos hcell h0 hxa hxb hab hkind hroom ?_ hs
  refine r_loc S hself ?_ hkE hsl (by decide +kernel)
  refine acc_iter S G I ?_
  have S2 := S.push { cls := .type "list_iterator", data := .fields #[.ref x, .int 0 0] }
  refine ⟨G.top.nolimit.keeps S2.fr.keep, ?_⟩
  refine r_gcode S2 hcode C (.tail _ hm) ht fun code tab' s3 S3 ht' => ?_
  have h63 : s.heap.objs.size ≠ 63 := fun e => absurd (hlt _ hm) (by rw [e]; exact Nat.lt_irrefl _)
  rw [chg_skip _ _ _ _ h63] at S3
  rw [hglob]
  refine r_builtinsFor (G.at S3) ?_
  have hx : x ≠ s.heap.objs.size := fun e => absurd (hlt _ I.obj) (by rw [← e]; exact Nat.lt_irrefl _)
  have hvl : vs.toArray.size = hp.length := by rw [List.size_toArray, H.eq, List.length_map]
  have hgt : ∀ j, j < vs.toArray.size → vs.toArray[j]? = some (.ref (hp.getD j (0, 0, 0, 0)).1) := by
    intro j hj
    rw [hvl] at hj
    rw [List.getElem?_toArray, H.eq, List.getElem?_map, List.getElem?_eq_getElem hj, List.getD_eq_getElem?_getD, List.getElem?_eq_getElem hj]; rfl
  have hmem : ∀ j, j < vs.toArray.size → hp.getD j (0, 0, 0, 0) ∈ hp := by
    intro j hj
    rw [hvl] at hj
    rw [List.getD_eq_getElem?_getD, List.getElem?_eq_getElem hj]; exact List.getElem_mem hj
  refine ⟨s.heap.objs.size, _, [s.heap.objs.size], vs.toArray.size, _, _, _, fun _ => true, fun _ y => ∃ t, y = .int 1 t, rfl,
    fun A' hA => walksU_sub hA s.heap.objs.size x hx vs.toArray (fun j => (hp.getD j (0, 0, 0, 0)).1) (fun j => #[.str (T []) (hp.getD j (0, 0, 0, 0)).2.1, .str (T [(hp.getD j (0, 0, 0, 0)).2.2.1]) (hp.getD j (0, 0, 0, 0)).2.2.2]) hgt (fun j hj e => ?_), ?_, ?_, ?_, ?_, ?_, ?_, ?_⟩
  · exact absurd (hlt _ (H.at_ _ (hmem j hj))) (by rw [e]; exact Nat.lt_irrefl _)
  · exact fun i vals e => ⟨_, _, e⟩
  · refine ⟨⟨_, S3.at (.head _), rfl, rfl⟩, ⟨_, _, S3.at (.tail _ (chg_off I.obj ?_)), rfl⟩, fun j hj => ⟨_, S3.at (.tail _ (chg_off (H.at_ _ (hmem j hj)) ?_)), rfl, 0, rfl⟩⟩
    · exact S.other I.obj hm fun e => absurd (congrArg Obj.cls e) (by simp)
    · exact S.other (H.at_ _ (hmem j hj)) hm fun e => absurd (congrArg Obj.cls e) (by simp)
  · intro b hb
    rcases List.mem_cons.mp hb with rfl | hb
    · exact Heap.lt_size (S3.at (.head _))
    rcases List.mem_cons.mp hb with rfl | hb
    · exact Heap.lt_size (S3.at (.tail _ (chg_off I.obj (S.other I.obj hm fun e => absurd (congrArg Obj.cls e) (by simp)))))
    obtain ⟨j, hj, rfl⟩ := List.mem_map.mp hb
    have hj' := List.mem_range.mp hj
    exact Heap.lt_size (S3.at (.tail _ (chg_off (H.at_ _ (hmem j hj')) (S.other (H.at_ _ (hmem j hj')) hm fun e => absurd (congrArg Obj.cls e) (by simp)))))
  · exact G.top.nolimit.keeps S3.fr.keep
  · intro hcs
    obtain ⟨_, hn, _⟩ := G.top.nolimit
    have h1 := hn.lt
    have h2 : cStatics < s.heap.objs.size := Nat.lt_of_lt_of_le h1 (Nat.le_trans S.fr.above (Nat.le_of_lt hLs))
    rw [List.mem_singleton.mp hcs] at h2
    exact absurd h2 (Nat.lt_irrefl _)
  · intro href hk
    have hG : ∀ (s₂ : Shared), (∀ b ∈ List.range s3.heap.objs.size, b ∉ [s.heap.objs.size] → ∀ o, href.get? b = some o → s₂.heap.get? b = some o) → Gl w mean mg mb s₂.heap := fun s₂ hkp =>
      G.keeps fun b ob e => hkp b (List.mem_range.mpr (Heap.lt_size (S3.fr.keep b ob e))) (fun hb => by
        have h1 := Heap.lt_size e
        have h2 := S.fr.above
        rw [List.mem_singleton.mp hb] at h1
        exact absurd (Nat.lt_of_lt_of_le h1 (Nat.le_trans h2 (Nat.le_of_lt hLs))) (Nat.lt_irrefl _)) ob (hk b ob (S3.fr.keep b ob e))
    refine ⟨fun A' E' i va vb s₂ m₂ hA _ _ hP hn ha hb hkp => ?_, fun A' E' i va vb s₂ m₂ hA _ _ hP _ hn ha hb hkp => ?_⟩
    · exact wpAny_pure ⟨rfl, _, _, rfl, fun _ _ e => e⟩
    · have h1 : va = .str (T []) (hp.getD i (0, 0, 0, 0)).2.1 := by injection hP with h; injection h
      have h2 : vb = .str (T [(hp.getD i (0, 0, 0, 0)).2.2.1]) (hp.getD i (0, 0, 0, 0)).2.2.2 := by injection hP with h; injection h with _ h; injection h
      subst h1 h2
      exact acc_elt (hG s₂ hkp) hn ha hb hkind hlen hglob rfl hxa hxb
  · intro a h5 tk gs hb hlt5 hsz5 hk5 W St0
    have S5 : Sat h₀ env.locals m (chg M 63 (tabObj tab')) o d { s3 with gens := s3.gens.push gs, toks := tk, heap := h5 } := by
      have S4 := (S3.sub (M' := chg M 63 (tabObj tab')) (fun p hp => .tail _ hp) (by rw [chg_keys]; exact S.nd)).kept (h' := h5) (tk := tk) hk5
      exact ⟨S4.fr, S4.nw, S4.nd, S3.gb.push hb, S4.os, S4.dr⟩
    have h3 : s.heap.objs.size < s3.heap.objs.size := Heap.lt_size (S3.at (.head _))
    refine k a tab' _ _ _ _ _ _ _ S5 ht' W ?_ (fun i v hv => hv.choose_spec.2) St0 (fun b hb => ?_) (fun b hb => ?_)
    · unfold passing
      simp
      rw [List.filter_eq_self.mpr (fun _ _ => rfl), List.length_range]
    · show b < h5.objs.size
      rw [hsz5]
      rcases List.mem_cons.mp hb with rfl | hb
      · exact Nat.lt_succ_self _
      rcases List.mem_cons.mp hb with rfl | hb
      · exact Nat.lt_succ_of_lt hlt5
      · exact Nat.lt_succ_of_lt (Nat.lt_trans (List.mem_range.mp hb) hlt5)
    · rcases List.mem_cons.mp hb with rfl | hb
      · exact Nat.le_of_lt h3
      · rw [List.mem_singleton.mp hb]; exact Nat.le_refl _
end

end
section
open PySem.Spec PySem.Calls
theorem preSum_one : ∀ n, preSum (fun _ => 1) n = n
  | 0 => rfl
  | n + 1 => by rw [preSum, preSum_one n]; omega
set_option maxHeartbeats 4000000 in
theorem acc_len {w : World} {A : Around} {E : Value → Shared → Prop} {s : Shared} {h₀ : Heap} {L : Addr} {m : Str → Option Value} {M : List (Addr × Obj)} {o : OsState} {d : Drawn} {mean : ExcName → Option Value} {mg mb : Str → Option Value} {i : Int} {t : Tok} {x dx : Addr} {vs : List Value} {n c : Nat} {ps : Array Value} {hp : List (Addr × Tok × Nat × Tok)} {Q : Value → Shared → Prop}
    (R : Room A 6) (S : Sat h₀ L m M o d s) (G : Gl w mean mg mb h₀) (I : Inst M x dx 101 (.seq vs.toArray n) (accF i t) c) (H : Held M vs hp) (hm : (63, tabObj ps) ∈ M) (ht : TriplesOk ps.toList)
    (hi : 0 ≤ i ∧ i ≤ 1000) (hz : vs.length ≤ 1000)
    (k : ∀ t ps' s', Sat h₀ L m (chg M 63 (tabObj ps')) o d s' → TriplesOk ps'.toList → Q (.int (i + vs.length) t) s') :
    wpAny (model PySem.Challenge.rw_xo0031_01.row.prog w) A (call (.builtin "len") [.ref x]) Q E s := by
  obtain ⟨es, ne, hdm, D⟩ := I.own
  refine len_K (f := 68) S.fr G.kin (instAt S I.obj hdm I.no) (by kernel_rfl) (by kernel_rfl) ?_
  have ho := S.fr.keep _ _ (G.kin 68 _ (rfl : (hd.heap_1 w.params).lookup 68 = some _))
  have Se : Sat h₀ L m (M ++ []) o d s := by rw [List.append_nil]; exact S
  refine r_callH (b := 4) (R.in1 (b := 5)) Se G ho rfl rfl (codeRec_of (K := (hd.heap_1 w.params)) (G.kin.keeps S.fr.keep) (by kernel_rfl)) (binds := [(Str.ofString "self", .ref x)]) rfl (by decide) (locs rfl) rfl rfl rfl ?_
  clear ho
  intro A1 s2 R2 G2 S2
  have hh1 := R2.hh
  dsimp only [newEnv]
  (repeat (tb_start; (try dsimp only)))
  refine r_genAcc hh1 (by have := R2.dep; omega) S2 rfl G2 I H (by tb_rel) rfl (by with_unfolding_all rfl) rfl rfl (codeHd_of_K G2.kin (by kernel_rfl)) hm ht rfl (by with_unfolding_all rfl) (by decide) (by with_unfolding_all rfl) (by with_unfolding_all rfl) (by with_unfolding_all rfl) (by decide) rfl (by with_unfolding_all rfl) (by intro v; with_unfolding_all rfl) ?_
  intro a tab' s3 fp wr g nn P St S3 ht' W hnn hP St0 hfp hwr
  refine spliced_more ?_ (by with_unfolding_all rfl)
  refine Attribute_any_ ?_
  refine r_loc S3 (by tb_rel) ?_ rfl (by with_unfolding_all rfl) (by decide)
  have hmx : ∀ q ∈ M, q.1 ≠ 63 → q ∈ chg M 63 (tabObj tab') := fun q hq hn => chg_off hq hn
  have hx63 : x ≠ 63 := S2.other I.obj hm fun e => absurd (congrArg Obj.cls e) (by simp)
  have hdx63 : dx ≠ 63 := S2.other hdm hm fun e => absurd (congrArg Obj.cls e) (by simp)
  have I3 : Inst (chg M 63 (tabObj tab')) x dx 101 (.seq vs.toArray n) (accF i t) c := I.sub fun q hq hqq => hmx q hq (by rcases hqq with e | e <;> rw [e] <;> assumption)
  obtain ⟨es3, n3, hm3, D3⟩ := I3.own
  have X3 := G2.kin.keeps S3.fr.keep
  refine getL_value (v := .int i t) X3 (instAt S3 I3.obj hm3 I3.no) (by kernel_rfl) (by kernel_rfl) (looks_mroIn X3 (acc_sub w)) (findObj_own (attr := none) (by kernel_rfl) (by kernel_rfl) (by kernel_rfl) (by show lookIn _ (dictOf es3 n3) = _; rw [lookIn_dict, D3.look]; rfl)) rfl ?_
  refine spliced_none ?_
  have S4 := S3.tk (s3.toks + 1)
  have St1 := W.frame 0 s3 s3.heap (s3.toks + 1) St0 (Nat.le_succ _) (fun _ _ _ e => e)
  refine call_sum_start (by omega) (W.in4_1.self 0 _ _ _ St1 ?_)
  refine ⟨a, fp, wr, _, nn, P, St, fun _ => 1, rfl, W.in4_1, St1, hfp, hP, fun s5 t5 hmv => ?_⟩
  have S5 := S4.moved hmv hwr (fun q hq => ?_) (Nat.lt_of_lt_of_le S2.fr.ns.lt (Nat.le_refl _))
  · rw [preSum_one, hnn]
    refine ⟨by omega, ?_⟩
    have S6 := Se.back (S5.tk (s5.toks + 1))
    rw [List.append_nil] at S6
    exact k _ _ _ S6 ht'
  · obtain ⟨r, hr, e⟩ := List.mem_map.mp hq
    have : q.1 = r.1 := by rw [← e]; split <;> simp_all
    rw [this]
    exact Heap.lt_size (S2.nw r hr).1

end
section
open PySem.Spec PySem.Calls
open PyProof.Rows.LCg (lst lst_snoc)
/-- a carrier goes along the boxes -/
noncomputable def ledF (rm : Nat) : List Nat → List Nat → List Nat
  | [], st => st
  | c :: r, st => if c = 32 then st.headD 32 :: ledF rm r st.tail
    else if st.length < rm then 32 :: ledF rm r (c :: st) else c :: ledF rm r st
noncomputable def stk (hp : List (Addr × Tok × Nat × Tok)) : List Nat := (hp.map fun p => p.2.2.1).reverse
theorem stk_nil : stk [] = [] := rfl
theorem stk_snoc (hp : List (Addr × Tok × Nat × Tok)) (p : Addr × Tok × Nat × Tok) : stk (hp ++ [p]) = p.2.2.1 :: stk hp := by simp [stk]
theorem stk_len (hp : List (Addr × Tok × Nat × Tok)) : (stk hp).length = hp.length := by simp [stk]
theorem Held.nil {M : List (Addr × Obj)} : Held M [] [] := ⟨rfl, fun _ h => nomatch h⟩
theorem Held.len {M : List (Addr × Obj)} {vs : List Value} {hp : List (Addr × Tok × Nat × Tok)} (H : Held M vs hp) : vs.length = hp.length := by rw [H.eq, List.length_map]
theorem Held.sub {M M' : List (Addr × Obj)} {vs : List Value} {hp : List (Addr × Tok × Nat × Tok)} (H : Held M vs hp) (h : ∀ q ∈ M, q.2.cls = .type "tuple" → q ∈ M') : Held M' vs hp := ⟨H.eq, fun p hp => h _ (H.at_ p hp) rfl⟩
theorem Held.snoc {M : List (Addr × Obj)} {vs : List Value} {hp : List (Addr × Tok × Nat × Tok)} (H : Held M vs hp) {T0 : Addr} {t1 t2 : Tok} {c : Nat} (h : (T0, tpN [.str (T []) t1, .str (T [c]) t2]) ∈ M) : Held M (vs ++ [.ref T0]) (hp ++ [(T0, t1, c, t2)]) :=
  ⟨by rw [H.eq]; simp, fun p hq => by
    rcases List.mem_append.mp hq with hq | hq
    · exact H.at_ p hq
    · rw [List.mem_singleton.mp hq]; exact h⟩
theorem Held.last {M : List (Addr × Obj)} {us : List Value} {v : Value} {hp : List (Addr × Tok × Nat × Tok)} (H : Held M (us ++ [v]) hp) : ∃ hq p, hp = hq ++ [p] ∧ v = .ref p.1 ∧ Held M us hq := by
  have hne : hp ≠ [] := fun e => by have := H.len; rw [e] at this; simp at this
  obtain ⟨hq, p, rfl⟩ : ∃ hq p, hp = hq ++ [p] := ⟨_, _, (List.dropLast_concat_getLast hne).symm⟩
  have e := H.eq
  rw [List.map_append, List.map_cons, List.map_nil] at e
  obtain ⟨e1, e2⟩ := List.append_inj' e rfl
  exact ⟨hq, p, rfl, by simpa using e2, e1, fun q h => H.at_ q (List.mem_append.mpr (.inl h))⟩
inductive LedJ (x dx : Addr) (i0 : Int) (ti : Tok) (rm : Nat) (l : List Nat) (i : Nat) (m : Str → Option Value) (M : List (Addr × Obj)) : Prop
  | mk (out : List Nat) (hp : List (Addr × Tok × Nat × Tok)) (n : Nat) (c : Nat) (ps : Array Value) (tb : Tok) (vs : List Value) (h1 : m (Str.ofString "carrier") = some (.ref x)) (h2 : m (Str.ofString "boxes") = some (.str (T out) tb))
    (h3 : Inst M x dx 101 (.seq vs.toArray n) (accF i0 ti) c) (h4 : Held M vs hp) (h5 : (63, tabObj ps) ∈ M) (h6 : TriplesOk ps.toList) (h7 : hp.length ≤ i) (h8 : out.length = i) (h9 : out ++ ledF rm (l.drop i) (stk hp) = ledF rm l []) : LedJ x dx i0 ti rm l i m M
set_option maxHeartbeats 4000000 in
theorem r_led {w : World} {A : Around} {E : Value → Shared → Prop} {s : Shared} {h₀ : Heap} {L : Addr} {m : Str → Option Value} {M : List (Addr × Obj)} {o : OsState} {d : Drawn} {mean : ExcName → Option Value} {mg mb : Str → Option Value} {l : List Nat} {tx tr : Tok} {rm : Nat} {ps : Array Value} {Q : Value → Shared → Prop}
    (R : Room A 9) (S : Sat h₀ L m ((63, tabObj ps) :: M) o d s) (G : Gl w mean mg mb h₀) (ht : TriplesOk ps.toList) (hl : l.length ≤ 200) (hr : 1 ≤ rm ∧ rm ≤ 9)
    (k : ∀ t ps' s', Sat h₀ L m ((63, tabObj ps') :: M) o d s' → TriplesOk ps'.toList → Q (.str (T (ledF rm l [])) t) s') :
    wpAny (model PySem.Challenge.rw_xo0031_01.row.prog w) A (call (.ref 199) [.str (T l) tx, .int rm tr]) Q E s := by
  have ho := S.fr.keep _ _ (G.kin 199 _ (rfl : (hd.heap_1 w.params).lookup 199 = some _))
  refine r_callH (b := 8) (H := [(63, tabObj ps)]) R S G ho rfl rfl (codeRec_of (K := (hd.heap_1 w.params)) (G.kin.keeps S.fr.keep) (by kernel_rfl)) (binds := [(Str.ofString "row", .str (T l) tx), (Str.ofString "room", .int rm tr)]) rfl (by decide) (locs rfl) rfl rfl rfl ?_
  clear ho
  intro A1 s2 R2 G2 S2
  have hh1 := R2.hh
  dsimp only [newEnv]
  (repeat (tb_start; (try dsimp only)))
  rename_i ti s3 S3
  refine ⟨⟨_, _, _, _, _, S3⟩, ?_⟩
  refine acc_new (R2.less (by decide)) S3 G2 fun x dx n c s4 N S4 I4 hc4 => ?_
  (repeat (tb_start; (try dsimp only)))
  rename_i s5 S5
  refine wpAny_mono (Q := fun fl s' => fl = .next ∧ ∃ m M, Sat (hideAll s.heap (keysOf [(63, tabObj ps)])) s.heap.objs.size m M s.os s.drawn s' ∧ LedJ x dx (9 - rm) ti rm l l.length m M) ?_ ?_ (fun _ _ h => h)
  · refine r_for ?_ (by intros; with_unfolding_all rfl) (by intros; with_unfolding_all rfl)
    (repeat (tb_start; (try dsimp only)))
    refine r_iterS hh1 S5 (fun i m M => LedJ x dx (9 - rm) ti rm l i m M) ⟨[], [], n, c, ps, _, [], by tb_rel, by tb_rel, I4.sub fun q hq _ => List.mem_append.mpr (.inl hq), Held.nil, List.mem_append.mpr (.inr (.head _)), ht, by simp, by simp, by simp [stk]⟩ ?_ ?_ (by with_unfolding_all rfl) (by with_unfolding_all rfl)
    · rintro i cc t m₁ M₁ I oI s6 hc ⟨out, hp, n1, c1, ps1, tb, vs, m1, m2, I1, H1, hm63, ht1, hpi, hout, htot⟩ S6
      have hc' : l[i]? = some cc := by simpa [T] using hc
      have hil : i < l.length := by
        rcases Nat.lt_or_ge i l.length with h | h
        · exact h
        · rw [List.getElem?_eq_none h] at hc'; cases hc'
      have hdr : l.drop i = cc :: l.drop (i + 1) := by
        rw [List.drop_eq_getElem_cons hil]
        rw [List.getElem?_eq_getElem hil] at hc'
        rw [Option.some.inj hc']
      rw [hdr, ledF] at htot
      have eT : ({ cps := #[cc] } : Str) = T [cc] := rfl
      rw [eT] at S6
      (repeat (tb_start; (try dsimp only)))
      split
      · rename_i h1
        have h1' : cc = 32 := by simpa using h1
        rw [if_pos h1'] at htot
        (repeat (tb_start; (try dsimp only)))
        refine Assign_Tuple ?_ (by with_unfolding_all rfl) (by with_unfolding_all rfl)
        refine r_meth ?_ (by with_unfolding_all rfl) (by with_unfolding_all rfl) rfl
        (repeat (tb_start; (try dsimp only)))
        intro pl
        rename_i s7 S7
        have I7 : Inst ((I, oI) :: M₁) x dx 101 (.seq vs.toArray n1) (accF (9 - rm) ti) c1 := I1.sub fun q hq _ => .tail _ hq
        have hvl : vs.length = hp.length := H1.len
        refine r_methAL (fa := 61) S7 G2.kin I7 (by unfold accF; tb_rel) ?_ (by kernel_rfl) (by kernel_rfl)
        refine callWith_K0 (K := (hd.heap_1 w.params)) (G2.kin.keeps S7.fr.keep) (by kernel_rfl) ?_
        dsimp only [List.append_nil]
        refine acc_pop (R2.less (by decide)) S7 G2 I7 (by omega) (fun hv Tr t1 t2 s8 S8 => ?_) (fun us v hv n' s8 S8 => ?_)
        · refine r_asgP hh1 S8 ⟨_, S8.at (.head _), rfl, 0, rfl⟩ ?_ (by with_unfolding_all rfl) (by with_unfolding_all rfl) (by with_unfolding_all rfl)
          intro s9 S9
          (repeat (tb_start; (try dsimp only)))
          refine wpAny_IfExp ?_
          (repeat (tb_start; (try dsimp only)))
          refine P.truthy_str (by rw [T_length]; simp) ?_
          rw [if_neg (by rw [T_length]; simp)]
          have S10 := S9.tk (s9.toks + 1 + 1)
          (repeat (tb_start; (try dsimp only)))
          rename_i t11 s11 S11
          refine r_iaddT S11 (by simp; omega) fun t12 s12 S12 => ?_
          (repeat (tb_start; (try dsimp only)))
          rename_i s13 S13
          have hhp : hp = [] := List.length_eq_zero_iff.mp (by rw [← hvl, hv]; rfl)
          refine ⟨_, [_], M₁, S13, out ++ [32], hp, n1, c1, ps1, _, vs, by tb_rel, by tb_rel, I1.sub fun q hq _ => .tail _ hq, H1.sub fun q hq _ => .tail _ hq, .tail _ hm63, ht1, by omega, by simp; omega, ?_⟩
          rw [← htot, hhp, stk_nil, List.append_assoc]; rfl
        · obtain ⟨hq, p, rfl, rfl, Hq⟩ := (hv ▸ H1 : Held M₁ (us ++ [v]) hp).last
          have hxI : I ≠ x := Ne.symm (S7.off1 I1.obj)
          rw [chg_skip _ _ _ _ hxI] at S8
          have I8 := I1.turned (dt' := .seq us.toArray n') rfl
          have hpm : (p.1, tpN [.str (T []) p.2.1, .str (T [p.2.2.1]) p.2.2.2]) ∈ M₁ := H1.at_ p (List.mem_append.mpr (.inr (.head _)))
          have hne : ∀ q ∈ M₁, q.2.cls = .type "tuple" → q.1 ≠ x := fun q hq hc => S7.other (.tail _ hq) (.tail _ I1.obj) fun e => by rw [e] at hc; simp at hc
          have hpm8 := chg_off (ob' := listObj 101 dx us n') hpm (hne _ hpm rfl)
          refine r_asgP hh1 S8 ⟨_, S8.at (.tail _ hpm8), rfl, 0, rfl⟩ ?_ (by with_unfolding_all rfl) (by with_unfolding_all rfl) (by with_unfolding_all rfl)
          intro s9 S9
          (repeat (tb_start; (try dsimp only)))
          refine wpAny_IfExp ?_
          (repeat (tb_start; (try dsimp only)))
          refine P.truthy_str (by rw [T_length]; simp) ?_
          rw [if_pos (by rw [T_length]; simp)]
          have S10 := S9.tk (s9.toks + 1 + 1)
          (repeat (tb_start; (try dsimp only)))
          refine r_iaddT S10 (by simp; omega) fun t12 s12 S12 => ?_
          (repeat (tb_start; (try dsimp only)))
          rename_i s13 S13
          have hm63' := chg_off (ob' := listObj 101 dx us n') hm63 (S7.other (.tail _ hm63) (.tail _ I1.obj) fun e => absurd (congrArg Obj.cls e) (by simp))
          refine ⟨_, [], _, S13, out ++ [p.2.2.1], hq, n', c1, ps1, _, us, by tb_rel, by tb_rel, I8, Hq.sub fun q hq hc => chg_off hq (hne q hq hc), hm63', ht1, by simp at hpi; omega, by simp; omega, ?_⟩
          rw [← htot, stk_snoc, List.append_assoc]; rfl
      · rename_i h1
        have h1' : ¬ cc = 32 := by simpa using h1
        rw [if_neg h1', stk_len] at htot
        (repeat (tb_start; (try dsimp only)))
        have hvl : vs.length = hp.length := H1.len
        have I7 : Inst ((I, oI) :: M₁) x dx 101 (.seq vs.toArray n1) (accF (9 - rm) ti) c1 := I1.sub fun q hq _ => .tail _ hq
        refine acc_len (R2.less (by decide)) (by assumption) G2 I7 (H1.sub fun q hq _ => .tail _ hq) (.tail _ hm63) ht1 (by omega) (by omega) fun t7 ps7 s7 S7 ht7 => ?_
        have h63I : I ≠ 63 := Ne.symm (S6.off1 hm63)
        rw [chg_skip _ _ _ _ h63I] at S7
        have hx63 : x ≠ 63 := S6.other (.tail _ I1.obj) (.tail _ hm63) fun e => absurd (congrArg Obj.cls e) (by simp)
        obtain ⟨es1, ne1, hdm1, D1⟩ := I1.own
        have hdx63 : dx ≠ 63 := S6.other (.tail _ hdm1) (.tail _ hm63) fun e => absurd (congrArg Obj.cls e) (by simp)
        have hne63 : ∀ q ∈ M₁, q.2.cls = .type "tuple" → q.1 ≠ 63 := fun q hq hc => S6.other (.tail _ hq) (.tail _ hm63) fun e => by rw [e] at hc; simp at hc
        obtain ⟨M2, hM2, hm2, I2, H2⟩ : ∃ M2, chg M₁ 63 (tabObj ps7) = M2 ∧ (63, tabObj ps7) ∈ M2 ∧ Inst M2 x dx 101 (.seq vs.toArray n1) (accF (9 - rm) ti) c1 ∧ Held M2 vs hp :=
          ⟨_, rfl, chg_mem hm63, I1.sub fun q hq hqq => chg_off hq (by rcases hqq with e | e <;> rw [e] <;> assumption), H1.sub fun q hq hc => chg_off hq (hne63 q hq hc)⟩
        rw [hM2] at S7
        clear hM2 I7
        (repeat (tb_start; (try dsimp only)))
        split
        · rename_i h2
          have h2' : hp.length < rm := by simp at h2; omega
          rw [if_pos h2'] at htot
          (repeat (tb_start; (try dsimp only)))
          refine r_meth ?_ (by with_unfolding_all rfl) (by with_unfolding_all rfl) rfl
          (repeat (tb_start; (try dsimp only)))
          intro pl
          rename_i s8 S8
          have I8 : Inst ((I, oI) :: M2) x dx 101 (.seq vs.toArray n1) (accF (9 - rm) ti) c1 := I2.sub fun q hq _ => .tail _ hq
          refine r_methAL (fa := 45) S8 G2.kin I8 (by unfold accF; tb_rel) ?_ (by kernel_rfl) (by kernel_rfl)
          refine callWith_K G2.kin (by kernel_rfl) ?_ (by with_unfolding_all rfl) (by with_unfolding_all rfl)
          (repeat (tb_start; (try dsimp only)))
          rename_i t9 s9 S9
          refine ⟨G2.kin.keeps S9.fr.keep, ?_⟩
          dsimp only [List.cons_append, List.nil_append]
          refine acc_push (R2.less (by decide)) S9 G2 I8 (by omega) fun Tp n' s10 S10 => ?_
          have hxI : I ≠ x := Ne.symm (S7.off1 I2.obj)
          rw [chg_skip _ _ _ _ hxI] at S10
          have I10 := I2.turned (dt' := .seq (vs ++ [Value.ref Tp]).toArray n') rfl
          have hne : ∀ q ∈ M2, q.2.cls = .type "tuple" → q.1 ≠ x := fun q hq hc => S7.other (.tail _ hq) (.tail _ I2.obj) fun e => by rw [e] at hc; simp at hc
          have hm2' := chg_off (ob' := listObj 101 dx (vs ++ [Value.ref Tp]) n') hm2 (Ne.symm hx63)
          (repeat (tb_start; (try dsimp only)))
          rename_i t11 s11 S11
          refine r_iaddT S11 (by simp; omega) fun t12 s12 S12 => ?_
          (repeat (tb_start; (try dsimp only)))
          rename_i s13 S13
          refine ⟨_, [_], _, S13, out ++ [32], hp ++ [(Tp, _, cc, _)], n', c1, ps7, _, _, by tb_rel, by tb_rel, I10.sub fun q hq _ => .tail _ hq, Held.snoc (H2.sub fun q hq hc => .tail _ (chg_off hq (hne q hq hc))) (.head _), .tail _ hm2', ht7, by simp; omega, by simp; omega, ?_⟩
          rw [← htot, stk_snoc, List.append_assoc]; rfl
        · rename_i h2
          have h2' : ¬ hp.length < rm := by simp at h2; omega
          rw [if_neg h2'] at htot
          (repeat (tb_start; (try dsimp only)))
          rename_i s8 S8
          refine r_iaddT S8 (by simp; omega) fun t12 s12 S12 => ?_
          (repeat (tb_start; (try dsimp only)))
          rename_i s13 S13
          refine ⟨_, [], _, S13, out ++ [cc], hp, n1, c1, ps7, _, vs, by tb_rel, by tb_rel, I2, H2, hm2, ht7, by omega, by simp; omega, ?_⟩
          rw [← htot, List.append_assoc]; rfl
    · intro m₁ M₁ s6 hJ S6
      have e : (T l).cps.size = l.length := by simp [T]
      rw [e] at hJ
      exact ⟨rfl, _, _, S6, hJ⟩
  · rintro f s6 ⟨rfl, m₁, M₁, S6, out, hp, n1, c1, ps1, tb, vs, m1, m2, I1, H1, hm63, ht1, hpi, hout, htot⟩
    dsimp only
    rw [List.drop_length, ledF] at htot
    refine wpAny_execs_cons ?_
    refine wpAny_mono (Q := fun f s' => f = .next ∧ ∃ m M ps9 tb, Sat (hideAll s.heap (keysOf [(63, tabObj ps)])) s.heap.objs.size m M s.os s.drawn s' ∧ m (Str.ofString "boxes") = some (.str (T (ledF rm l [])) tb) ∧ (63, tabObj ps9) ∈ M ∧ TriplesOk ps9.toList)
      (r_while (fun k s' => ∃ m M out hp n c tb vs, Sat (hideAll s.heap (keysOf [(63, tabObj ps)])) s.heap.objs.size m M s.os s.drawn s' ∧ m (Str.ofString "carrier") = some (.ref x) ∧ m (Str.ofString "boxes") = some (.str (T out) tb) ∧ Inst M x dx 101 (.seq vs.toArray n) (accF (9 - rm) ti) c ∧ Held M vs hp ∧ (63, tabObj ps1) ∈ M ∧
        hp.length = k ∧ out.length + hp.length ≤ 400 ∧ out ++ stk hp = ledF rm l []) hp.length ⟨m₁, M₁, out, hp, n1, c1, tb, vs, S6, m1, m2, I1, H1, hm63, rfl, by omega, htot⟩ ?_) ?_ (fun _ _ h => h)
    · rintro kk s7 ⟨m2, M2, out2, hp2, n2, c2, tb2, vs2, S7, m21, m22, I2, H2, hm2, hk2, hz2, ht2⟩
      have hvl : vs2.length = hp2.length := H2.len
      (repeat (tb_start; (try dsimp only)))
      refine r_meth ?_ (by with_unfolding_all rfl) (by with_unfolding_all rfl) rfl
      (repeat (tb_start; (try dsimp only)))
      intro pl
      refine r_methAL (fa := 98) S7 G2.kin I2 (by unfold accF; tb_rel) ?_ (by kernel_rfl) (by kernel_rfl)
      refine callWith_K0 (K := (hd.heap_1 w.params)) (G2.kin.keeps S7.fr.keep) (by kernel_rfl) ?_
      dsimp only [List.append_nil]
      refine acc_count (R2.less (by decide)) S7 G2 I2 fun t8 s8 S8 => ?_
      (repeat (tb_start; (try dsimp only)))
      rename_i t9 s9 S9
      split
      · rename_i h2
        have h2' : 0 < hp2.length := by simp at h2; omega
        (repeat (tb_start; (try dsimp only)))
        refine r_meth ?_ (by with_unfolding_all rfl) (by with_unfolding_all rfl) rfl
        (repeat (tb_start; (try dsimp only)))
        intro pl
        refine r_methAL (fa := 61) S9 G2.kin I2 (by unfold accF; tb_rel) ?_ (by kernel_rfl) (by kernel_rfl)
        refine callWith_K0 (K := (hd.heap_1 w.params)) (G2.kin.keeps S9.fr.keep) (by kernel_rfl) ?_
        dsimp only [List.append_nil]
        refine acc_pop (R2.less (by decide)) S9 G2 I2 (by omega) (fun hv => absurd hvl (by rw [hv]; simp; omega)) (fun us v hv n' s10 S10 => ?_)
        obtain ⟨hq, p, rfl, rfl, Hq⟩ := (hv ▸ H2 : Held M2 (us ++ [v]) hp2).last
        have I10 := I2.turned (dt' := .seq us.toArray n') rfl
        have hpm : (p.1, tpN [.str (T []) p.2.1, .str (T [p.2.2.1]) p.2.2.2]) ∈ M2 := H2.at_ p (List.mem_append.mpr (.inr (.head _)))
        have hne : ∀ q ∈ M2, q.2.cls = .type "tuple" → q.1 ≠ x := fun q hq hc => S7.other hq I2.obj fun e => by rw [e] at hc; simp at hc
        have hpm8 := chg_off (ob' := listObj 101 dx us n') hpm (hne _ hpm rfl)
        have hm2' := chg_off (ob' := listObj 101 dx us n') hm2 (S7.other hm2 I2.obj fun e => absurd (congrArg Obj.cls e) (by simp))
        (repeat (tb_start; (try dsimp only)))
        rename_i t11 s11 S11
        refine kba_turn (value' := PySem.Expr.Name (PySem.Str.ofString "_") ⟨0, 0, 0, 0⟩) (fun _ => rfl) ?_
        refine r_item1 S11 hpm8 ?_ (by with_unfolding_all rfl) (by intro _; with_unfolding_all rfl)
        (repeat (tb_start; (try dsimp only)))
        simp only [List.length_append, List.length_singleton] at hz2 hk2
        refine r_iaddT S11 (by simp; omega) fun t12 s12 S12 => ?_
        (repeat (tb_start; (try dsimp only)))
        rename_i s13 S13
        refine ⟨hq.length, by omega, _, _, out2 ++ [p.2.2.1], hq, n', c2, _, us, S13, by tb_rel, by tb_rel, I10, Hq.sub fun q hq hc => chg_off hq (hne q hq hc), hm2', rfl, by simp; omega, ?_⟩
        rw [← ht2, stk_snoc, List.append_assoc]; rfl
      · rename_i h2
        have h2' : hp2 = [] := List.length_eq_zero_iff.mp (by rw [decide_eq_true_eq] at h2; omega)
        rw [h2', stk_nil, List.append_nil] at ht2
        (repeat (tb_start; (try dsimp only)))
        exact ⟨rfl, _, _, _, _, S9, by rw [← ht2]; exact m22, hm2, ht1⟩
    · rintro f s7 ⟨rfl, m2, M2, ps2, tb2, S7, m22, hm2, ht2⟩
      (repeat (tb_start; (try dsimp only)))
      refine k _ ps2 _ ((Sat.back (H := [(63, tabObj ps)]) S S7).sub (fun q hq => ?_) S.nd) ht2
      rcases List.mem_cons.mp hq with rfl | hq
      · exact List.mem_append.mpr (.inl hm2)
      · exact List.mem_append.mpr (.inr hq)

end
section
open PySem.Spec PySem.Calls
section
variable {M : Model} {A : Around} {R : GenEnd} {Y : Protocol} {n : Nat} {s₀ : Shared} {c : Code} {fs : List Frame} {s : Shared} {env : Env}
  {K : Flow → Sem Fin} {H : Value → Sem Fin} {gd : Bool → Bool} {lv : List Value → List Value}
theorem seg_bw {α β : Type} {m : Sem α} {f : α → Sem β} {K : β → Sem Fin}
    (h : wpAny M (A.over c fs) m (fun a s' => Seg M A R Y n s₀ c ((f a).wrap K H gd lv) fs s') (fun x s' => Seg M A R Y n s₀ c (H x) fs s') s) :
    Seg M A R Y n s₀ c ((m >>= f).wrap K H gd lv) fs s := by
  rw [Sem.bind_eq_wrap', Sem.wrap_wrap]
  exact seg_wrap h
theorem seg_If {test : Expr} {body orelse : List Stmt} {pos : Pos}
    (h : wpAny M (A.over c fs) (isTrue test env (eval test env)) (fun b s' => if b = true then Seg M A R Y n s₀ c ((execs body env).wrap K H gd lv) fs s' else Seg M A R Y n s₀ c ((execs orelse env).wrap K H gd lv) fs s')
      (fun x s' => Seg M A R Y n s₀ c (H x) fs s') s) :
    Seg M A R Y n s₀ c ((exec (.If test body orelse pos) env).wrap K H gd lv) fs s := by
  rw [exec_If]
  refine seg_bw (wpAny_standAt (seg_bw (wpAny_mono h (fun b s' hb => ?_) fun _ _ x => x)))
  cases b
  · rw [if_neg Bool.false_ne_true] at hb ⊢; exact hb
  · rw [if_pos rfl] at hb ⊢; exact hb
/-- a statement without a yield -/
theorem seg_quiet {st : Stmt} {rest : List Stmt}
    (h : wpAny M (A.over c fs) (exec st env) (fun f s' => Seg M A R Y n s₀ c (match f with | .next => (execs rest env).wrap K H gd lv | f => K f) fs s') (fun x s' => Seg M A R Y n s₀ c (H x) fs s') s) :
    Seg M A R Y n s₀ c ((execs (st :: rest) env).wrap K H gd lv) fs s := seg_execs_cons (seg_wrap h)
/-- the frame of an activation of its own -/
noncomputable abbrev ownF (env : Env) (K : Flow → Sem Fin) (H : Value → Sem Fin) (gd : Bool → Bool) (lv : List Value → List Value) (c : Code) (p : Pos) : Frame :=
  .ret (fun r => ((match r with | .ok f => (.pure f : Sem Flow) | .error e => .raise e).onRaise fun (x : Value) => do
        if (← field x 1) == Value.none then unsupported "frame.own-activation:exception-without-traceback"
        setFlight x env.frame).wrap K H gd lv) none (gd false) (lv []) c p []
theorem seg_For {target iter : Expr} {body : List Stmt} {pos : Pos}
    (h : wpAny M (A.over c fs) (eval iter env) (fun x s₁ => wpAny M (A.over c fs) (pyIter x) (fun it s₂ =>
        ∀ p, Seg M A R Y n s₀ (.forLoop target it body [] env) (M.den (.forLoop target it body [] env)) (ownF env K H gd lv c p :: fs) s₂)
      (fun x s' => Seg M A R Y n s₀ c (H x) fs s') s₁) (fun x s' => Seg M A R Y n s₀ c (H x) fs s') s)
    (hs : ∀ x, foldedSetIterable iter env x = pure x) :
    Seg M A R Y n s₀ c ((exec (.For target iter body [] pos) env).wrap K H gd lv) fs s := by
  rw [exec_For]
  refine seg_bw (wpAny_standAt (seg_bw (wpAny_mono h (fun x s₁ h₁ => ?_) fun _ _ x => x)))
  refine seg_bw (wpAny_of_eq (hs x) (seg_bw (wpAny_standAt (seg_bw (wpAny_holding (wpAny_mono h₁ (fun it s₂ h₂ => ?_) fun _ _ x => x))))))
  exact seg_call h₂
theorem ownF_pop {f : Flow} {p : Pos} (h : Seg M A R Y n s₀ c (K f) fs s) {c' : Code} : Seg M A R Y n s₀ c' (.pure (.done f)) (ownF env K H gd lv c p :: fs) s :=
  seg_leaf (.ok f) h
end
section
variable {prog : Program} {w : World} {A : Around} {R : GenEnd} {Y : Protocol} {n : Nat} {s₀ : Shared} {fs : List Frame} {s : Shared} {env : Env}
noncomputable abbrev forK (target : Expr) (it : Value) (body : List Stmt) (env : Env) (f : Flow) : Sem Fin := match f with
  | .next | .cont => .pure (.again (.forLoop target it body [] env))
  | .brk => .pure (.done .next)
  | .ret v => .pure (.done (.ret v))
noncomputable abbrev forH (env : Env) (e : Value) : Sem Fin := (do noteFrame e env; theTreesLotGoes e : Sem Unit).wrap (fun _ => .raise e) .raise id id
theorem seg_forLoop {target : Expr} {it : Value} {body : List Stmt}
    (h : wpAny (model prog w) (A.over (.forLoop target it body [] env) fs) (pyNext it) (fun r s₁ => match r with
        | none => Seg (model prog w) A R Y n s₀ (.block [] env) ((model prog w).den (.block [] env)) fs s₁
        | some v => wpAny (model prog w) (A.over (.forLoop target it body [] env) fs) (letOwnedTupleGo target it v) (fun _ s₂ => wpAny (model prog w) (A.over (.forLoop target it body [] env) fs) (assign target env v) (fun _ s₃ =>
            Seg (model prog w) A R Y n s₀ (.forLoop target it body [] env) ((execs body env).wrap (forK target it body env) (forH env) id id) fs s₃) F0 s₂) F0 s₁) F0 s) :
    Seg (model prog w) A R Y n s₀ (.forLoop target it body [] env) ((model prog w).den (.forLoop target it body [] env)) fs s := by
  show Seg _ A R Y n s₀ _ ((forTurn target it body [] env).onRaise (fun x => do noteFrame x env; theTreesLotGoes x)) fs s
  unfold forTurn
  rw [Sem.onRaise_eq_wrap]
  refine seg_bw (wpAny_standAt (seg_bw (wpAny_onRaise (wpAny_mono h (fun r s₁ h₁ => ?_) fun _ _ x => x.elim))))
  cases r with
  | none => exact seg_again rfl h₁
  | some v =>
    refine seg_bw (wpAny_mono h₁ (fun _ s₂ h₂ => seg_bw (wpAny_mono h₂ (fun _ s₃ h₃ => ?_) fun _ _ x => x.elim)) fun _ _ x => x.elim)
    rw [Sem.bind_eq_wrap', Sem.wrap_wrap]
    rw [Sem.wrap_congr (execs body env) _ _ (K' := forK target it body env) (H' := forH env) (fun f => by cases f <;> rfl)
      (fun e => by first | exact Sem.bind_eq_wrap _ _ | (show (do noteFrame e env; theTreesLotGoes e : Sem Unit).bind (fun _ => .raise e) = _; rw [Sem.bind_eq_wrap]))]
    exact h₃
end

end
section
open PySem.Spec PySem.Calls
/-- Sat, the generators' states told -/
structure SatG (γ : Array GenState) (h₀ : Heap) (L : Addr) (m : Str → Option Value) (M : List (Addr × Obj)) (o : OsState) (d : Drawn) (s : Shared) : Prop where
  sat : Sat h₀ L m M o d s
  ge : s.gens = γ
section
variable {prog : Program} {w : World} {A : Around} {E : Value → Shared → Prop} {s : Shared} {env : Env} {h₀ : Heap} {L : Addr} {m : Str → Option Value} {M : List (Addr × Obj)} {o : OsState} {d : Drawn} {γ : Array GenState}
theorem SatG.tk (S : SatG γ h₀ L m M o d s) (n : Nat) : SatG γ h₀ L m M o d { s with toks := n } := ⟨S.sat.tk n, S.ge⟩
theorem SatG.at (S : SatG γ h₀ L m M o d s) {p : Addr × Obj} (h : p ∈ M) : s.heap.get? p.1 = some p.2 := S.sat.at h
theorem SatG.chg {a : Addr} {ob ob' : Obj} {h' : Heap} (S : SatG γ h₀ L m M o d s) (hm : (a, ob) ∈ M) (hs : Heap.SameBut a s.heap h') (ho : h'.get? a = some ob') (n : Nat) :
    SatG γ h₀ L m (Mine.chg M a ob') o d { s with heap := h', toks := n } := ⟨S.sat.chg hm hs ho n, S.ge⟩
theorem q_st {x : Str} {v : Value} {Q : Unit → Shared → Prop} (S : SatG γ h₀ env.locals m M o d s)
    (k : ∀ s', SatG γ h₀ env.locals (fun y => if y = x then some v else m y) M o d s' → Q () s') (hl : env.kindOf x = some .local)
    (hp : (env.scope.kind == .class || (env.scope.kind == .module && env.locals != env.globals)) = false) :
    wpAny (model prog w) A (storeName env x v) Q E s :=
  wpAny_storeName_local hl S.sat.fr.ns (fun _ hn hs => k _ ⟨⟨S.sat.fr.set hn hs, S.sat.nw.set hs, S.sat.nd, S.sat.gb, S.sat.os, S.sat.dr⟩, S.ge⟩) hp
theorem q_asgN {x : Str} {px : Pos} {v : Value} {Q : Unit → Shared → Prop} (S : SatG γ h₀ env.locals m M o d s)
    (k : ∀ s', SatG γ h₀ env.locals (fun y => if y = x then some v else m y) M o d s' → Q () s') (hl : env.kindOf x = some .local)
    (hp : (env.scope.kind == .class || (env.scope.kind == .module && env.locals != env.globals)) = false) :
    wpAny (model prog w) A (assign (.Name x px) env v) Q E s := wpAny_assign_Name (q_st S k hl hp)
theorem q_stc {c : Addr} {ob : Obj} {v₀ : Option Value} {v : Value} {x : Str} {px : Pos} {Q : Unit → Shared → Prop} (S : SatG γ h₀ L m M o d s) (hm : (c, ob) ∈ M) (hd : ob.data = .cell v₀)
    (hk : env.scope.kind = .function) (hl : env.kindOf x = some .cell) (hc : env.cells.lookup x = some c)
    (k : ∀ ob' s', ob'.data = .cell (some v) → SatG γ h₀ L m (Mine.chg M c ob') o d s' → Q () s') : wpAny (model prog w) A (assign (.Name x px) env v) Q E s := by
  refine wpAny_assign_Name (wpAny_storeName_cell hk hl hc ⟨ob, S.at hm, hd⟩ fun h' hc' hs => ?_)
  obtain ⟨ob', ho', hd'⟩ := hc'
  exact k ob' _ hd' (S.chg hm hs ho' s.toks)
theorem q_kint {i : Int} {kd : Nat} {pos : Pos} {Q : Value → Shared → Prop} (S : SatG γ h₀ L m M o d s) (k : ∀ t s', SatG γ h₀ L m M o d s' → Q (.int i t) s') :
    wpAny (model prog w) A (eval (.Constant (.int i) kd pos) env) Q E s := wpAny_Constant_int (k _ _ (S.tk _))
theorem q_app {l : Addr} {vs : List Value} {n : Nat} {y : Value} {Q : Value → Shared → Prop} (S : SatG γ h₀ L m M o d s) (hm : (l, lsN vs n) ∈ M) (hsz : vs.length ≤ 1000)
    (k : ∀ s', SatG γ h₀ L m (Mine.chg M l (lsN (vs ++ [y]) (n + 1))) o d s' → Q .none s') : wpAny (model prog w) A (call (.builtin "list.append") [.ref l, y]) Q E s := by
  refine append_at (S.at hm) (fun h' hs hD => k _ (S.chg hm hs (hD.trans ?_) s.toks)) ?_
  · rw [List.push_toArray]
  · rw [List.size_toArray, sizeLine_eq]; omega
theorem q_lenL {l : Addr} {vs : List Value} {Q : Value → Shared → Prop} (S : SatG γ h₀ L m M o d s) (hl : s.heap.IsList l vs.toArray) (hz : vs.length ≤ 100000) (k : ∀ t s', SatG γ h₀ L m M o d s' → Q (.int vs.length t) s') :
    wpAny (model prog w) A (call (.builtin "len") [.ref l]) Q E s := by
  refine Calls.call_len_list hl (by rw [List.size_toArray]; omega) ?_
  rw [List.size_toArray]
  exact k _ _ (S.tk _)
/-- a list's iterator in the ledger -/
noncomputable def ItAt (M : List (Addr × Obj)) (I l : Addr) (i : Nat) : Prop := ∃ oI, (I, oI) ∈ M ∧ oI.cls = .type "list_iterator" ∧ oI.data = .fields #[.ref l, .int i 0]
theorem ItAt.at {I l : Addr} {i : Nat} (h : ItAt M I l i) (S : Sat h₀ L m M o d s) : s.heap.IsListIter I l i := let ⟨oI, hm, hc, hd⟩ := h; ⟨oI, S.at hm, hc, hd⟩
theorem q_iter {l : Addr} {vs : List Value} {Q : Value → Shared → Prop} (S : SatG γ h₀ L m M o d s) (hl : s.heap.IsList l vs.toArray)
    (k : ∀ oI s', oI.cls = .type "list_iterator" → oI.data = .fields #[.ref l, .int 0 0] → SatG γ h₀ L m ((s.heap.objs.size, oI) :: M) o d s' → Q (.ref s.heap.objs.size) s') :
    wpAny (model prog w) A (pyIter (.ref l)) Q E s := wpAny_pyIter_list hl (k _ _ rfl rfl ⟨S.sat.push _, S.ge⟩)
theorem q_next {I l : Addr} {i : Nat} {vs : List Value} {v : Value} {Q : Option Value → Shared → Prop} (S : SatG γ h₀ L m M o d s) (hI : ItAt M I l i) (hl : s.heap.IsList l vs.toArray) (hx : vs[i]? = some v)
    (k : ∀ oI s', oI.cls = .type "list_iterator" → oI.data = .fields #[.ref l, .int (i + 1 : Nat) 0] → SatG γ h₀ L m (Mine.chg M I oI) o d s' → Q (some v) s') :
    wpAny (model prog w) A (pyNext (.ref I)) Q E s := by
  obtain ⟨oI, hm, hc, hd⟩ := hI
  refine wpAny_pyNext_list_item ⟨oI, S.at hm, hc, hd⟩ hl (by simpa using hx) fun h' hit' hs' => ?_
  obtain ⟨oI', ho', hc', hd'⟩ := hit'
  exact k oI' _ hc' hd' (S.chg hm hs' ho' s.toks)
theorem q_done {I l : Addr} {i : Nat} {vs : List Value} {Q : Option Value → Shared → Prop} (hh : A.handled = none) (S : SatG γ h₀ L m M o d s) (hI : ItAt M I l i) (hl : s.heap.IsList l vs.toArray) (hx : vs[i]? = none)
    (k : ∀ s', s'.gens = s.gens → s'.os = s.os → s'.drawn = s.drawn → (∀ b ob, b ≠ I → s.heap.get? b = some ob → s'.heap.get? b = some ob) → Q none s') :
    wpAny (model prog w) A (pyNext (.ref I)) Q E s := by
  obtain ⟨oI, hm, hc, hd⟩ := hI
  exact wpAny_pyNext_list_end hh ⟨oI, S.at hm, hc, hd⟩ hl (by simpa using hx) fun h' hs' => k _ rfl rfl rfl fun b ob hb e => hs' b ob hb e
/-- everything in the ledger -/
theorem Sat.whole {C : Addr} {mC : Str → Option Value} (hn : s.heap.Ns C mC) (hk : ∀ b ob, h₀.get? b = some ob → s.heap.get? b = some ob) (ha : h₀.objs.size ≤ C) (g : AllBare s.gens) :
    ∃ M, SatG s.gens h₀ C mC M s.os s.drawn s ∧ ∀ b ob, b ≠ C → s.heap.get? b = some ob → (∃ ob', h₀.get? b = some ob') ∨ (b, ob) ∈ M := by
  let F : Nat → Option (Addr × Obj) := fun b => if b = C then none else match h₀.get? b with | some _ => none | none => (s.heap.get? b).map fun ob => (b, ob)
  have hF : ∀ b p, F b = some p → p.1 = b ∧ b ≠ C ∧ h₀.get? b = none ∧ s.heap.get? b = some p.2 := by
    intro b p e
    simp only [F] at e
    split at e
    · cases e
    · rename_i hb
      split at e
      · cases e
      · rename_i hn
        obtain ⟨ob, ho, rfl⟩ := Option.map_eq_some_iff.mp e
        exact ⟨rfl, hb, hn, ho⟩
  refine ⟨(List.range s.heap.objs.size).filterMap F, ⟨⟨⟨hn, hk, ha⟩, fun p hp => ?_, ?_, g, rfl, rfl⟩, rfl⟩, fun b ob hb e => ?_⟩
  · obtain ⟨b, -, hb⟩ := List.mem_filterMap.mp hp
    obtain ⟨h1, h2, h3, h4⟩ := hF b p hb
    rw [h1]; exact ⟨h4, h2, h3⟩
  · unfold List.Nodup
    rw [List.pairwise_map]
    refine List.Pairwise.filterMap (R := fun a b : Nat => a ≠ b) F ?_ List.nodup_range
    intro a b hab p hp q hq e
    have e1 := (hF a p hp).1
    have e2 := (hF b q hq).1
    exact hab (by rw [← e1, ← e2]; exact e)
  · cases e0 : h₀.get? b with
    | some ob' => exact .inl ⟨ob', rfl⟩
    | none => exact .inr (List.mem_filterMap.mpr ⟨b, List.mem_range.mpr (Heap.lt_size e), by simp [F, hb, e0, e]⟩)
end

end
section
open PySem.Spec PySem.Calls
noncomputable def KeepBut (C I : Addr) (s s' : Shared) : Prop := s'.gens = s.gens ∧ s'.os = s.os ∧ s'.drawn = s.drawn ∧ ∀ b ob, b ≠ C → b ≠ I → s.heap.get? b = some ob → s'.heap.get? b = some ob
theorem KeepBut.refl (C I : Addr) (s : Shared) : KeepBut C I s s := ⟨rfl, rfl, rfl, fun _ _ _ _ e => e⟩
theorem KeepBut.trans {C I : Addr} {a b c : Shared} (x : KeepBut C I a b) (y : KeepBut C I b c) : KeepBut C I a c :=
  ⟨y.1.trans x.1, y.2.1.trans x.2.1, y.2.2.1.trans x.2.2.1, fun b ob h1 h2 e => y.2.2.2 b ob h1 h2 (x.2.2.2 b ob h1 h2 e)⟩
noncomputable def YG (h₀ : Heap) (C I D : Addr) (out : Nat → Option Int) : Protocol := fun k s₀ v s' kap =>
  (∃ x t, out k = some x ∧ v = .int x t) ∧ KeepBut C I s₀ s' ∧ ∃ oC oI oD, s'.heap.get? C = some oC ∧ s'.heap.get? I = some oI ∧ s'.heap.get? D = some oD ∧
    (k ≠ 0 → ∀ s'' : Shared, (∀ b ob, h₀.get? b = some ob → s''.heap.get? b = some ob) → AllBare s''.gens → s''.heap.get? C = some oC → s''.heap.get? I = some oI → s''.heap.get? D = some oD → kap (.send .none) s'')
noncomputable def PG (C I : Addr) (out : Nat → Option Int) (n : Nat) (s₀ s₁ : Shared) : Prop := (n = 1 ∧ out 0 = none) ∧ KeepBut C I s₀ s₁
noncomputable abbrev RG (C I : Addr) (out : Nat → Option Int) : GenEnd := fun n s₀ r s₁ => r = .ok (.ret .none) ∧ PG C I out n s₀ s₁
/-- the generator's place: ahead of the i-th item -/
structure GS (h₀ : Heap) (C I D : Addr) (vs : List Value) (i : Nat) (lv : Value) (s₀ s : Shared) : Prop where
  ns : ∃ mC, s.heap.Ns C mC ∧ mC (Str.ofString "last_interval") = some lv
  it : s.heap.IsListIter I D i
  ls : s.heap.IsList D vs.toArray
  kp : ∀ b ob, h₀.get? b = some ob → s.heap.get? b = some ob
  gb : AllBare s.gens
  sb : KeepBut C I s₀ s
structure Fix (h₀ : Heap) (C I D : Addr) : Prop where
  ab : h₀.objs.size ≤ C
  ci : C ≠ I
  dc : D ≠ C
  di : D ≠ I
  i0 : h₀.get? I = none
  d0 : h₀.get? D = none
section
variable {w : World} {A : Around} {s s₀ : Shared} {h₀ : Heap} {env : Env} {I D : Addr} {vs : List Value} {out : Nat → Option Int} {mean : ExcName → Option Value} {mg mb : Str → Option Value}
structure GEnv (env : Env) : Prop where
  k : env.scope.kind = .function
  it : env.kindOf (Str.ofString "interval") = some .local
  la : env.kindOf (Str.ofString "last_interval") = some .local
  cm : env.kindOf (Str.ofString "CHAR_MAX") = some .globalImplicit
  g : env.globals = mainGlobals
  co : env.scope.isCoroutine = false
  ia : interactive env = false
theorem GEnv.hp (e : GEnv env) : (env.scope.kind == .class || (env.scope.kind == .module && env.locals != env.globals)) = false := by rw [e.k]; rfl
noncomputable abbrev gBody (zbody : List Stmt) (p1 p2 p3 p4 p5 p6 p7 p8 p9 p10 p11 p12 p13 p14 p15 : Pos) (kd : Nat) : List Stmt :=
  [.If (.Compare (.Name (Str.ofString "interval") p1) [.Eq] [.Name (Str.ofString "CHAR_MAX") p2] p3) [.Return none p4] [] p5,
   .If (.Compare (.Name (Str.ofString "interval") p6) [.Eq] [.Constant (.int 0) kd p7] p8) zbody [] p9,
   .Expr (.Yield (some (.Name (Str.ofString "interval") p10)) p11) p12,
   .Assign [.Name (Str.ofString "last_interval") p13] (.Name (Str.ofString "interval") p14) p15]
noncomputable def cmTok : Option (Option Value) → Tok
  | some (some (.int _ t)) => t
  | _ => 0
theorem char_max (w : World) : nsIn (hd.heap_1 w.params) mainGlobals (Str.ofString "CHAR_MAX") = some (some (.int 127 (cmTok (nsIn (hd.heap_1 w.params) mainGlobals (Str.ofString "CHAR_MAX"))))) := by kernel_rfl
theorem turnY {zbody : List Stmt} {p1 p2 p3 p4 p5 p6 p7 p8 p9 p10 p11 p12 p13 p14 p15 px : Pos} {kd : Nat} {n i : Nat} {lv : Value} {x : Int} {t : Tok} {fs : List Frame}
    (GE : GEnv env) (G : Gl w mean mg mb h₀) (F : Fix h₀ env.locals I D) (hfs : splitAtGen fs = none) (hfg : fs.any Frame.guarded = false)
    (X : GS h₀ env.locals I D vs i lv s₀ s) (hx : vs[i]? = some (.int x t)) (h127 : x ≠ 127) (h0 : x ≠ 0) (ho : out n = some x)
    (next : n ≠ 0 → ∀ s'' s4, GS h₀ env.locals I D vs (i + 1) (.int x t) s'' s4 → Seg (model PySem.Challenge.rw_xo0031_01.row.prog w) A (RG env.locals I out) (YG h₀ env.locals I D out) n s'' (.forLoop (.Name (Str.ofString "interval") px) (.ref I) (gBody zbody p1 p2 p3 p4 p5 p6 p7 p8 p9 p10 p11 p12 p13 p14 p15 kd) [] env) ((model PySem.Challenge.rw_xo0031_01.row.prog w).den (.forLoop (.Name (Str.ofString "interval") px) (.ref I) (gBody zbody p1 p2 p3 p4 p5 p6 p7 p8 p9 p10 p11 p12 p13 p14 p15 kd) [] env)) fs s4) :
    Seg (model PySem.Challenge.rw_xo0031_01.row.prog w) A (RG env.locals I out) (YG h₀ env.locals I D out) (n + 1) s₀ (.forLoop (.Name (Str.ofString "interval") px) (.ref I) (gBody zbody p1 p2 p3 p4 p5 p6 p7 p8 p9 p10 p11 p12 p13 p14 p15 kd) [] env) ((model PySem.Challenge.rw_xo0031_01.row.prog w).den (.forLoop (.Name (Str.ofString "interval") px) (.ref I) (gBody zbody p1 p2 p3 p4 p5 p6 p7 p8 p9 p10 p11 p12 p13 p14 p15 kd) [] env)) fs s := by
  obtain ⟨⟨mC, hn, hlv⟩, hit, hls, hkp, hgb, hsb⟩ := X
  obtain ⟨M, S, hall⟩ := Sat.whole hn hkp F.ab hgb
  obtain ⟨oI, hoI, hcI, hdI⟩ := id hit
  obtain ⟨oD, hoD, hDr⟩ := id hls
  have hIM : (I, oI) ∈ M := by
    rcases hall I oI (Ne.symm F.ci) hoI with ⟨ob, e⟩ | h
    · rw [F.i0] at e; cases e
    · exact h
  have hDM : (D, oD) ∈ M := by
    rcases hall D oD F.dc hoD with ⟨ob, e⟩ | h
    · rw [F.d0] at e; cases e
    · exact h
  refine seg_forLoop ?_
  refine q_next S ⟨oI, hIM, hcI, hdI⟩ hls hx fun oI1 s1 hc1 hd1 S1 => ?_
  refine wpAny_pure ?_
  refine q_asgN S1 (fun s2 S2 => ?_) GE.it GE.hp
  have kb : ∀ s' m', SatG s.gens h₀ env.locals m' (chg M I oI1) s.os s.drawn s' → KeepBut env.locals I s s' := fun s' m' S' => ⟨S'.ge, S'.sat.os, S'.sat.dr, fun b ob h1 h2 e => by
    rcases hall b ob h1 e with ⟨ob', e'⟩ | h
    · have := hkp b ob' e'
      rw [this] at e; cases e
      exact S'.sat.fr.keep b _ e'
    · exact S'.at (chg_off h h2)⟩
  have tbi : (fun y => if y = Str.ofString "interval" then some (Value.int x t) else mC y) (Str.ofString "interval") = some (.int x t) := if_pos rfl
  refine seg_quiet ?_
  refine wpAny_If (wpAny_isTrue_Compare1 ?_ (by rfl))
  refine r_loc S2.sat tbi ?_ GE.k GE.it (by decide +kernel)
  refine r_globS S2.sat G (char_max w) ?_ GE.k GE.cm GE.g (by decide +kernel)
  refine eq_intR ?_
  refine wpAny_truthy_bool ?_
  rw [if_neg (by simpa using h127)]
  refine wpAny_execs_nil ?_
  dsimp only
  refine seg_execs_cons (seg_If ?_)
  refine wpAny_isTrue_Compare1 ?_ (by rfl)
  refine r_loc S2.sat tbi ?_ GE.k GE.it (by decide +kernel)
  refine q_kint S2 fun t3 s3 S3 => ?_
  refine eq_intR ?_
  refine wpAny_truthy_bool ?_
  rw [if_neg (by simpa using h0)]
  refine seg_execs_nil ?_
  dsimp only
  refine seg_execs_cons (seg_Expr_Yield hfs rfl hfg ?_ GE.co GE.ia)
  refine r_loc S3.sat tbi ?_ GE.k GE.it (by decide +kernel)
  intro kap hkap
  obtain ⟨oC, es, ep, hoC, hrC⟩ := id S3.sat.fr.ns
  refine ⟨⟨x, t, ho, rfl⟩, hsb.trans (kb _ _ S3), oC, oI1, oD, hoC, S3.at (chg_mem hIM), S3.at (chg_off hDM F.di), fun hn0 s5 hk5 hg5 hC5 hI5 hD5 => ?_⟩
  refine hkap .none s5 ?_
  have hn5 : s5.heap.Ns env.locals _ := S3.sat.fr.ns.at fun o' e => by rw [hoC] at e; cases e; exact hC5
  obtain ⟨M5, S5, hall5⟩ := Sat.whole hn5 hk5 F.ab hg5
  have hIM5 : (I, oI1) ∈ M5 := by
    rcases hall5 I oI1 (Ne.symm F.ci) hI5 with ⟨ob, e⟩ | h
    · rw [F.i0] at e; cases e
    · exact h
  have hDM5 : (D, oD) ∈ M5 := by
    rcases hall5 D oD F.dc hD5 with ⟨ob, e⟩ | h
    · rw [F.d0] at e; cases e
    · exact h
  refine seg_quiet (wpAny_Assign_Name ?_ (by rfl))
  refine r_loc S5.sat tbi ?_ GE.k GE.it (by decide +kernel)
  refine q_st S5 (fun s6 S6 => ?_) GE.la GE.hp
  refine seg_execs_nil ?_
  refine seg_again rfl (next hn0 s5 s6 ⟨⟨_, S6.sat.fr.ns, if_pos rfl⟩, ⟨oI1, S6.at hIM5, hc1, hd1⟩, ⟨oD, S6.at hDM5, hDr⟩, S6.sat.fr.keep, S6.sat.gb, S6.ge, S6.sat.os, S6.sat.dr, fun b ob h1 h2 e => ?_⟩)
  rcases hall5 b ob h1 e with ⟨ob', e'⟩ | h
  · have := hk5 b ob' e'
    rw [this] at e; cases e
    exact S6.sat.fr.keep b _ e'
  · exact S6.at h
end

end
section
open PySem.Spec PySem.Calls
section
variable {w : World} {A : Around} {s s₀ : Shared} {h₀ : Heap} {env : Env} {I D : Addr} {vs : List Value} {out : Nat → Option Int} {mean : ExcName → Option Value} {mg mb : Str → Option Value}
  {K : Flow → Sem Fin} {H : Value → Sem Fin} {gd : Bool → Bool} {lw : List Value → List Value} {c : Code} {pp : Pos}
theorem seg_blk {Y : Protocol} {n : Nat} {R : GenEnd} {fs : List Frame} (h : Seg (model PySem.Challenge.rw_xo0031_01.row.prog w) A R Y n s₀ (.block [] env) (.pure (.done .next)) fs s) :
    Seg (model PySem.Challenge.rw_xo0031_01.row.prog w) A R Y n s₀ (.block [] env) ((model PySem.Challenge.rw_xo0031_01.row.prog w).den (.block [] env)) fs s := by
  show Seg _ A R Y n s₀ _ (do return Fin.done (← (execs [] env).onRaise (fun x => do noteFrame x env; theTreesLotGoes x))) fs s
  exact h
theorem turnEnd {body : List Stmt} {x : Str} {px : Pos} {i : Nat} {lv : Value} (X : GS h₀ env.locals I D vs i lv s₀ s) (hx : vs[i]? = none) (h00 : out 0 = none)
    (hh : (A.over (.forLoop (.Name x px) (.ref I) body [] env) [ownF env K H gd lw c pp]).handled = none) (hK : K .next = .pure (.done (.ret .none))) :
    Seg (model PySem.Challenge.rw_xo0031_01.row.prog w) A (RG env.locals I out) (YG h₀ env.locals I D out) 1 s₀ (.forLoop (.Name x px) (.ref I) body [] env) ((model PySem.Challenge.rw_xo0031_01.row.prog w).den (.forLoop (.Name x px) (.ref I) body [] env)) [ownF env K H gd lw c pp] s := by
  obtain ⟨⟨mC, hn, hlv⟩, hit, hls, hkp, hgb, hsb⟩ := X
  refine seg_forLoop ?_
  refine wpAny_pyNext_list_end hh hit hls (by simpa using hx) fun h' hs' => ?_
  refine seg_blk (ownF_pop ?_)
  rw [hK]
  exact seg_end (.ok (.ret .none)) ⟨rfl, ⟨rfl, h00⟩, hsb.trans ⟨rfl, rfl, rfl, fun b ob _ h2 e => hs' b ob h2 e⟩⟩
/-- 127: the generator is through -/
theorem turnStop {zbody : List Stmt} {p1 p2 p3 p4 p5 p6 p7 p8 p9 p10 p11 p12 p13 p14 p15 px : Pos} {kd : Nat} {i : Nat} {lv : Value} {t : Tok}
    (GE : GEnv env) (G : Gl w mean mg mb h₀) (F : Fix h₀ env.locals I D)
    (X : GS h₀ env.locals I D vs i lv s₀ s) (hx : vs[i]? = some (.int 127 t)) (h00 : out 0 = none) (hK : K (.ret .none) = .pure (.done (.ret .none))) :
    Seg (model PySem.Challenge.rw_xo0031_01.row.prog w) A (RG env.locals I out) (YG h₀ env.locals I D out) 1 s₀ (.forLoop (.Name (Str.ofString "interval") px) (.ref I) (gBody zbody p1 p2 p3 p4 p5 p6 p7 p8 p9 p10 p11 p12 p13 p14 p15 kd) [] env) ((model PySem.Challenge.rw_xo0031_01.row.prog w).den (.forLoop (.Name (Str.ofString "interval") px) (.ref I) (gBody zbody p1 p2 p3 p4 p5 p6 p7 p8 p9 p10 p11 p12 p13 p14 p15 kd) [] env)) [ownF env K H gd lw c pp] s := by
  obtain ⟨⟨mC, hn, hlv⟩, hit, hls, hkp, hgb, hsb⟩ := X
  obtain ⟨M, S, hall⟩ := Sat.whole hn hkp F.ab hgb
  obtain ⟨oI, hoI, hcI, hdI⟩ := id hit
  have hIM : (I, oI) ∈ M := by
    rcases hall I oI (Ne.symm F.ci) hoI with ⟨ob, e⟩ | h
    · rw [F.i0] at e; cases e
    · exact h
  refine seg_forLoop ?_
  refine q_next S ⟨oI, hIM, hcI, hdI⟩ hls hx fun oI1 s1 hc1 hd1 S1 => ?_
  refine wpAny_pure ?_
  refine q_asgN S1 (fun s2 S2 => ?_) GE.it GE.hp
  have tbi : (fun y => if y = Str.ofString "interval" then some (Value.int 127 t) else mC y) (Str.ofString "interval") = some (.int 127 t) := if_pos rfl
  refine seg_quiet ?_
  refine wpAny_If (wpAny_isTrue_Compare1 ?_ (by rfl))
  refine r_loc S2.sat tbi ?_ GE.k GE.it (by decide +kernel)
  refine r_globS S2.sat G (char_max w) ?_ GE.k GE.cm GE.g (by decide +kernel)
  refine eq_intR ?_
  refine wpAny_truthy_bool ?_
  rw [if_pos (by simp)]
  refine wpAny_execs_cons (wpAny_Return_none ?_)
  dsimp only
  show Seg _ A _ _ 1 s₀ _ (.pure (.done (.ret .none))) _ s2
  refine ownF_pop ?_
  rw [hK]
  refine seg_end (.ok (.ret .none)) ⟨rfl, ⟨rfl, h00⟩, hsb.trans ⟨S2.ge, S2.sat.os, S2.sat.dr, fun b ob h1 h2 e => ?_⟩⟩
  rcases hall b ob h1 e with ⟨ob', e'⟩ | h
  · have := hkp b ob' e'
    rw [this] at e; cases e
    exact S2.sat.fr.keep b _ e'
  · exact S2.at (chg_off h h2)
noncomputable abbrev zBody (rbody : List Stmt) (q1 q2 q3 q4 q5 q6 q7 q8 q9 : Pos) (k1 k2 : Nat) : List Stmt :=
  [.If (.Compare (.Name (Str.ofString "last_interval") q1) [.Is] [.Constant .none k1 q2] q3) rbody [] q4,
   .While (.Constant (.bool true) k2 q5) [.Expr (.Yield (some (.Name (Str.ofString "last_interval") q6)) q7) q8] [] q9]
/-- 0: the last one, again -/
theorem turnZero {rbody : List Stmt} {q1 q2 q3 q4 q5 q6 q7 q8 q9 : Pos} {k1 k2 : Nat} {p1 p2 p3 p4 p5 p6 p7 p8 p9 p10 p11 p12 p13 p14 p15 px : Pos} {kd : Nat} {i : Nat} {x : Int} {t u : Tok} {fs : List Frame}
    (GE : GEnv env) (G : Gl w mean mg mb h₀) (F : Fix h₀ env.locals I D) (hfs : splitAtGen fs = none) (hfg : fs.any Frame.guarded = false)
    (X : GS h₀ env.locals I D vs i (.int x u) s₀ s) (hx : vs[i]? = some (.int 0 t)) (ho : out 0 = some x) :
    Seg (model PySem.Challenge.rw_xo0031_01.row.prog w) A (RG env.locals I out) (YG h₀ env.locals I D out) 1 s₀ (.forLoop (.Name (Str.ofString "interval") px) (.ref I) (gBody (zBody rbody q1 q2 q3 q4 q5 q6 q7 q8 q9 k1 k2) p1 p2 p3 p4 p5 p6 p7 p8 p9 p10 p11 p12 p13 p14 p15 kd) [] env) ((model PySem.Challenge.rw_xo0031_01.row.prog w).den (.forLoop (.Name (Str.ofString "interval") px) (.ref I) (gBody (zBody rbody q1 q2 q3 q4 q5 q6 q7 q8 q9 k1 k2) p1 p2 p3 p4 p5 p6 p7 p8 p9 p10 p11 p12 p13 p14 p15 kd) [] env)) fs s := by
  obtain ⟨⟨mC, hn, hlv⟩, hit, hls, hkp, hgb, hsb⟩ := X
  obtain ⟨M, S, hall⟩ := Sat.whole hn hkp F.ab hgb
  obtain ⟨oI, hoI, hcI, hdI⟩ := id hit
  obtain ⟨oD, hoD, hDr⟩ := id hls
  have hIM : (I, oI) ∈ M := by
    rcases hall I oI (Ne.symm F.ci) hoI with ⟨ob, e⟩ | h
    · rw [F.i0] at e; cases e
    · exact h
  have hDM : (D, oD) ∈ M := by
    rcases hall D oD F.dc hoD with ⟨ob, e⟩ | h
    · rw [F.d0] at e; cases e
    · exact h
  have kb : ∀ oI1 s' m', SatG s.gens h₀ env.locals m' (chg M I oI1) s.os s.drawn s' → KeepBut env.locals I s s' := fun oI1 s' m' S' => ⟨S'.ge, S'.sat.os, S'.sat.dr, fun b ob h1 h2 e => by
    rcases hall b ob h1 e with ⟨ob', e'⟩ | h
    · have := hkp b ob' e'
      rw [this] at e; cases e
      exact S'.sat.fr.keep b _ e'
    · exact S'.at (chg_off h h2)⟩
  refine seg_forLoop ?_
  refine q_next S ⟨oI, hIM, hcI, hdI⟩ hls hx fun oI1 s1 hc1 hd1 S1 => ?_
  refine wpAny_pure ?_
  refine q_asgN S1 (fun s2 S2 => ?_) GE.it GE.hp
  have tbi : (fun y => if y = Str.ofString "interval" then some (Value.int 0 t) else mC y) (Str.ofString "interval") = some (.int 0 t) := if_pos rfl
  have tbl : (fun y => if y = Str.ofString "interval" then some (Value.int 0 t) else mC y) (Str.ofString "last_interval") = some (.int x u) := (if_neg (name_ne (by decide))).trans hlv
  refine seg_quiet ?_
  refine wpAny_If (wpAny_isTrue_Compare1 ?_ (by rfl))
  refine r_loc S2.sat tbi ?_ GE.k GE.it (by decide +kernel)
  refine r_globS S2.sat G (char_max w) ?_ GE.k GE.cm GE.g (by decide +kernel)
  refine eq_intR ?_
  refine wpAny_truthy_bool ?_
  rw [if_neg (by simp)]
  refine wpAny_execs_nil ?_
  dsimp only
  refine seg_execs_cons (seg_If ?_)
  refine wpAny_isTrue_Compare1 ?_ (by rfl)
  refine r_loc S2.sat tbi ?_ GE.k GE.it (by decide +kernel)
  refine q_kint S2 fun t3 s3 S3 => ?_
  refine eq_intR ?_
  refine wpAny_truthy_bool ?_
  rw [if_pos (by simp)]
  refine seg_quiet ?_
  refine wpAny_If (wpAny_isTrue_Compare1 ?_ (by rfl))
  refine r_loc S3.sat tbl ?_ GE.k GE.la (by decide +kernel)
  refine wpAny_Constant_none ?_
  refine wpAny_is_other rfl (by intro e; cases e) ?_
  refine wpAny_truthy_bool ?_
  rw [if_neg (by simp)]
  refine wpAny_execs_nil ?_
  dsimp only
  refine seg_execs_cons (seg_While fun pw => ?_)
  refine seg_whileLoop ?_
  refine wpAny_isTrue_value ?_ (by rfl)
  refine wpAny_Constant_bool (wpAny_truthy_bool ?_)
  rw [if_pos rfl]
  refine seg_execs_cons (seg_Expr_Yield ?_ rfl ?_ ?_ GE.co GE.ia)
  · simp only [splitAtGen, hfs]; rfl
  · simp only [List.any_cons, hfg]; rfl
  refine r_loc S3.sat tbl ?_ GE.k GE.la (by decide +kernel)
  intro kap hkap
  obtain ⟨oC, es, ep, hoC, hrC⟩ := id S3.sat.fr.ns
  exact ⟨⟨x, u, ho, rfl⟩, hsb.trans (kb _ _ _ S3), oC, oI1, oD, hoC, S3.at (chg_mem hIM), S3.at (chg_off hDM F.di), fun hn0 => absurd rfl hn0⟩
end

end
section
open PySem.Spec PySem.Calls
section
variable {prog : Program} {w : World} {A : Around} {E : Value → Shared → Prop} {s s₀ : Shared} {h₀ : Heap} {env : Env} {I D : Addr} {vs : List Value} {out : Nat → Int} {mean : ExcName → Option Value} {mg mb : Str → Option Value}
/-- a generator function's next value; what it leaves needs no cleaning up -/
theorem next_gen {a : Addr} {g n : Nat} {gs : GenState} {P : Nat → Shared → Shared → Prop} {Y : Protocol} {Q : Option Value → Shared → Prop} (hh : A.handled = none) (hl : s.heap.NoLimit) (hroom : A.depth < recursionLimit)
    (hg : s.heap.IsGen a g) (hgs : s.gens[g]? = some gs)
    (hgo : gs.Goes (model prog w) A.in1 (fun n s₀ r s₁ => r = .ok (.ret .none) ∧ P n s₀ s₁) Y n (.send .none) (s.setGen g .running))
    (hY : ∀ v s₁ gs', gs'.bare = true → Y (n - 1) (s.setGen g .running) v s₁ (fun r' s'' => match n with
        | 0 => False
        | m + 1 => gs'.Goes (model prog w) A.in1 (fun n s₀ r s₁ => r = .ok (.ret .none) ∧ P n s₀ s₁) Y m r' s'') → Q (some v) (s₁.setGen g gs'))
    (hP : ∀ s₁, P n (s.setGen g .running) s₁ → ∀ h', (∀ b o, s₁.heap.get? b = some o → h'.get? b = some o) → Q none { s₁.setGen g .finished with heap := h' }) :
    wpAny (model prog w) A (pyNext (.ref a)) Q E s := by
  have hh1 : A.in1.handled = none := hh
  unfold pyNext
  refine wpAny_bind (wpAny_attempt (wpAny_callSpecial?_slot (name := Str.ofString "__next__") hg.typeIs slot_gen_next
    (wpAny_call_entry slot_gen_next hg.typeIs entry_gen_next ?_ (args_gen_next _))))
  show wpAny _ A.in1 (Builtin.Generator.genWake (.ref a) (.send .none)) _ _ s
  unfold Builtin.Generator.genWake
  refine wpAny_bind (wpAny_holding (wpAny_genNumber hg (wpAny_bind (wpAny_genState hgs ?_))))
  rcases gs with c | ⟨kk, l0, c0, p0, fs0, cl0⟩ | _ | _
  rotate_left 2
  · exact hgo.elim
  · exact hgo.elim
  all_goals
    refine wpAny_bind (wpAny_roomToWake hl hroom ?_)
    show wpAny _ A.in1 (.resume g (.send .none) [] _) _ _ s
    refine wpAny_resumeQ hgs hgo (fun x s₁ hx => ?_) (fun v s₁ gs' hb hv => wpAny_pure ⟨v, rfl, wpAny_pure (hY v s₁ gs' hb hv)⟩)
    obtain ⟨rfl, hp⟩ := hx
    show wpAny _ A.in1 (newExc (.type "StopIteration") [] >>= _) _ _ _
    refine wpAny_bind ?_
    simp only [newExc, newTuple]
    refine wpAny_bind (wpAny_newObj_type ?_ (by size_fits))
    refine wpAny_bind (m := firstArgMember _ _) (wpAny_of_eq (a := Value.none) (by first | rfl | (simp only [firstArgMember]; rfl)) ?_)
    refine wpAny_newObj_type ?_ (by size_fits)
    simp only [raiseNew]
    refine wpAny_bind (wpAny_bind (wpAny_handled ?_))
    rw [hh1]
    refine wpAny_throw ?_
    refine wpAny_bind (wpAny_isInstance (T := "StopIteration") (b := true) ⟨_, Heap.get?_push_size _ rfl, rfl⟩ isSubtype_stop ?_)
    exact wpAny_pure (hP s₁ hp _ fun b o hb => Heap.get?_push_of_some _ (Heap.get?_push_of_some _ hb))
end

end
section
open PySem.Spec PySem.Calls
section
variable {w : World} {A : Around} {E : Value → Shared → Prop} {s s₀ : Shared} {h₀ : Heap} {env : Env} {I D : Addr} {vs : List Value} {out : Nat → Option Int} {mean : ExcName → Option Value} {mg mb : Str → Option Value}
noncomputable abbrev fBody (body : List Stmt) (p1 p2 p3 px pi pf : Pos) (kd : Nat) : List Stmt :=
  [.Assign [.Name (Str.ofString "last_interval") p1] (.Constant .none kd p2) p3, .For (.Name (Str.ofString "interval") px) (.Name (Str.ofString "grouping") pi) body [] pf]
/-- what the generator is asked to give: a, b, and b again where a nought stands behind -/
structure Asks (vs : List Value) (a b : Int) (out : Nat → Option Int) : Prop where
  ia : ∃ t, vs[0]? = some (.int a t)
  ib : ∃ t, vs[1]? = some (.int b t)
  ic : (vs[2]? = none ∧ out 0 = none) ∨ (∃ t, vs[2]? = some (.int 127 t) ∧ out 0 = none) ∨ (∃ t, vs[2]? = some (.int 0 t) ∧ out 0 = some b)
  oa : out 2 = some a
  ob : out 1 = some b
  a0 : 0 < a ∧ a < 127
  b0 : 0 < b ∧ b < 127
theorem genStart {rbody : List Stmt} {q1 q2 q3 q4 q5 q6 q7 q8 q9 : Pos} {k1 k2 : Nat} {p1 p2 p3 p4 p5 p6 p7 p8 p9 p10 p11 p12 p13 p14 p15 px r1 r2 r3 r4 r5 : Pos} {kd kf : Nat} {mC : Str → Option Value}
    (GE : GEnv env) (hgk : env.kindOf (Str.ofString "grouping") = some .local) (G : Gl w mean mg mb h₀) (hh : A.handled = none) (hn : s.heap.Ns env.locals mC) (hgr : mC (Str.ofString "grouping") = some (.ref D)) (hls : s.heap.IsList D vs.toArray)
    (hkp : ∀ b ob, h₀.get? b = some ob → s.heap.get? b = some ob) (hgb : AllBare s.gens) (ab : h₀.objs.size ≤ env.locals) (dc : D ≠ env.locals) (d0 : h₀.get? D = none) (hI : s.heap.objs.size = I) {a b : Int} (Q : Asks vs a b out) :
    Seg (model PySem.Challenge.rw_xo0031_01.row.prog w) A (RG env.locals I out) (YG h₀ env.locals I D out) 3 s (.func (fBody (gBody (zBody rbody q1 q2 q3 q4 q5 q6 q7 q8 q9 k1 k2) p1 p2 p3 p4 p5 p6 p7 p8 p9 p10 p11 p12 p13 p14 p15 kd) r1 r2 r3 px r4 r5 kf) env)
      ((model PySem.Challenge.rw_xo0031_01.row.prog w).den (.func (fBody (gBody (zBody rbody q1 q2 q3 q4 q5 q6 q7 q8 q9 k1 k2) p1 p2 p3 p4 p5 p6 p7 p8 p9 p10 p11 p12 p13 p14 p15 kd) r1 r2 r3 px r4 r5 kf) env)) [] s := by
  obtain ⟨M, S, hall⟩ := Sat.whole hn hkp ab hgb
  obtain ⟨oD, hoD, hDr⟩ := id hls
  have hDM : (D, oD) ∈ M := by
    rcases hall D oD dc hoD with ⟨ob, e⟩ | h
    · rw [d0] at e; cases e
    · exact h
  refine seg_func ?_
  refine seg_quiet (wpAny_Assign_Name ?_ (by rfl))
  refine wpAny_Constant_none ?_
  refine wpAny_storeName_local GE.la S.sat.fr.ns (fun h2 hn2 hs2 => ?_) GE.hp
  have S2 : SatG s.gens h₀ env.locals _ M s.os s.drawn { s with heap := h2, toks := s.toks + 1 } := ⟨⟨S.sat.fr.set hn2 hs2, S.sat.nw.set hs2, S.sat.nd, S.sat.gb, S.sat.os, S.sat.dr⟩, rfl⟩
  have hsz : h2.objs.size = I := by rw [hs2.1, hI]
  dsimp only
  refine seg_execs_cons (seg_For ?_ (by intro _; rfl))
  refine r_loc S2.sat (if_neg (name_ne (by decide)) |>.trans hgr) ?_ GE.k hgk (by decide +kernel)
  have hl2 : h2.IsList D vs.toArray := ⟨oD, S2.at hDM, hDr⟩
  refine q_iter S2 hl2 fun oI s3 hc3 hd3 S3 pp => ?_
  dsimp only at S3 ⊢
  rw [hsz] at S3 ⊢
  have hci : env.locals ≠ I := by rw [← hI]; exact Nat.ne_of_lt hn.lt
  have hdi : D ≠ I := by rw [← hI]; exact Nat.ne_of_lt (Heap.lt_size hoD)
  have F : Fix h₀ env.locals I D := ⟨ab, hci, dc, hdi, (S3.sat.nw _ (.head _)).2.2, d0⟩
  have X : GS h₀ env.locals I D vs 0 .none s s3 := ⟨⟨_, S3.sat.fr.ns, if_pos rfl⟩, ⟨oI, S3.at (.head _), hc3, hd3⟩, ⟨oD, S3.at (.tail _ hDM), hDr⟩, S3.sat.fr.keep, S3.sat.gb, S3.ge, S3.sat.os, S3.sat.dr, fun b ob h1 h2 e => by
    rcases hall b ob h1 e with ⟨ob', e'⟩ | h
    · have := hkp b ob' e'
      rw [this] at e; cases e
      exact S3.sat.fr.keep b _ e'
    · exact S3.at (.tail _ h)⟩
  obtain ⟨ta, ha⟩ := Q.ia
  obtain ⟨tb, hb⟩ := Q.ib
  refine turnY GE G F rfl rfl X ha (by have := Q.a0; omega) (by have := Q.a0; omega) Q.oa fun _ s'' s4 X4 => ?_
  refine turnY GE G F rfl rfl X4 hb (by have := Q.b0; omega) (by have := Q.b0; omega) Q.ob fun _ s'' s5 X5 => ?_
  rcases Q.ic with ⟨hc, h00⟩ | ⟨t, hc, h00⟩ | ⟨t, hc, h01⟩
  · exact turnEnd X5 hc h00 hh rfl
  · exact turnStop GE G F X5 hc h00 rfl
  · exact turnZero GE G F rfl rfl X5 hc h01
end

end
section
open PySem.Spec PySem.Calls
theorem bare_set {a : Array GenState} {g : Nat} {x : GenState} (h : AllBare a) (hx : x.bare = true) : AllBare (a.setIfInBounds g x) := by
  intro y hy
  obtain ⟨i, hi, rfl⟩ := Array.mem_iff_getElem.mp hy
  have hi' : i < a.size := by simpa using hi
  rw [Array.getElem_setIfInBounds hi']
  split
  · exact hx
  · exact h _ (Array.getElem_mem _)
theorem chg_none {M : List (Addr × Obj)} {a : Addr} {ob : Obj} (h : ∀ q ∈ M, q.1 ≠ a) : chg M a ob = M := by
  unfold chg
  conv => rhs; rw [← List.map_id M]
  exact List.map_congr_left fun q hq => by simp [h q hq]
section
variable {w : World} {A : Around} {E : Value → Shared → Prop} {s s₁ : Shared} {h₀ : Heap} {L C I D : Addr} {m : Str → Option Value} {M : List (Addr × Obj)} {o : OsState} {d : Drawn} {mean : ExcName → Option Value} {mg mb : Str → Option Value} {oC oC' oI' : Obj} {g : Nat} {gs' : GenState}
/-- behind a wake of a generator -/
theorem Sat.woke (S : Sat h₀ L m ((C, oC) :: M) o d s) (kb : KeepBut C I (s.setGen g .running) s₁) (hb : gs'.bare = true) (hC : s₁.heap.get? C = some oC') (hI : s₁.heap.get? I = some oI')
    (hIn : ∀ q ∈ (C, oC) :: M, q.1 ≠ I) (hI0 : h₀.get? I = none) (hIL : I ≠ L) : Sat h₀ L m ((C, oC') :: (I, oI') :: M) o d (s₁.setGen g gs') := by
  obtain ⟨k1, k2, k3, k4⟩ := kb
  have hCn := S.nw _ (.head _)
  refine ⟨⟨S.fr.ns.at fun ob e => k4 _ _ (Ne.symm hCn.2.1) (Ne.symm hIL) e, fun b ob e => k4 b ob (fun q => ?_) (fun q => ?_) (S.fr.keep b ob e), S.fr.above⟩, fun p hp => ?_, ?_, ?_, k2.trans S.os, k3.trans S.dr⟩
  · rw [q, hCn.2.2] at e; cases e
  · rw [q, hI0] at e; cases e
  · rcases List.mem_cons.mp hp with rfl | hp
    · exact ⟨hC, hCn.2⟩
    rcases List.mem_cons.mp hp with rfl | hp
    · exact ⟨hI, hIL, hI0⟩
    · have h := S.nw p (.tail _ hp)
      exact ⟨k4 _ _ (S.off1 hp) (hIn p (.tail _ hp)) h.1, h.2⟩
  · have nd := S.nd
    rw [List.map_cons, List.nodup_cons] at nd
    rw [List.map_cons, List.map_cons, List.nodup_cons, List.nodup_cons]
    refine ⟨fun h => ?_, fun h => ?_, nd.2⟩
    · rcases List.mem_cons.mp h with h | h
      · exact hIn (C, oC) (.head _) h
      · exact nd.1 h
    · obtain ⟨p, hp, e⟩ := List.mem_map.mp h
      exact hIn p (.tail _ hp) e
  · show AllBare (s₁.gens.setIfInBounds g gs')
    rw [k1]
    exact bare_set (bare_set S.gb rfl) hb
noncomputable abbrev FreshG (w : World) (h₀ : Heap) (C D : Addr) (oC : Obj) (vs : List Value) (gs : GenState) : Prop :=
  ∀ (A0 : Around) (s' : Shared) (a b : Int) (out : Nat → Option Int), A0.handled = none → s'.heap.get? C = some oC → s'.heap.IsList D vs.toArray → (∀ b ob, h₀.get? b = some ob → s'.heap.get? b = some ob) → AllBare s'.gens → Asks vs a b out →
    gs.Goes (model PySem.Challenge.rw_xo0031_01.row.prog w) A0 (RG C s'.heap.objs.size out) (YG h₀ C s'.heap.objs.size D out) 3 (.send .none) s'
set_option maxHeartbeats 4000000 in
/-- a call of _grouping_intervals -/
theorem grp_new {vs : List Value} {Q : Value → Shared → Prop} (hroom : A.depth < recursionLimit) (S : Sat h₀ L m M o d s) (G : Gl w mean mg mb h₀) (hls : s.heap.IsList D vs.toArray) (d0 : h₀.get? D = none)
    (k : ∀ C Gn oC oG g gs s', Sat h₀ L m ((C, oC) :: (Gn, oG) :: M) o d s' → s'.heap.IsGen Gn g → s'.gens[g]? = some gs → FreshG w h₀ C D oC vs gs → Q (.ref Gn) s') :
    wpAny (model PySem.Challenge.rw_xo0031_01.row.prog w) A (call (.ref 112) [.ref D]) Q E s := by
  have ho := S.fr.keep _ _ (G.kin 112 _ (rfl : (hd.heap_1 w.params).lookup 112 = some _))
  refine wpAny_call (codeAny_call_generator hroom ho rfl rfl rfl rfl (codeRec_of (K := (hd.heap_1 w.params)) (G.kin.keeps S.fr.keep) (by kernel_rfl)) ?_)
  refine wpAny_of_eq (a := [(Str.ofString "grouping", .ref D)]) rfl ?_
  refine wpAny_newFunctionEnv (by decide) (locs rfl) (fun h' hn hsb => ?_) rfl
  dsimp only
  have keep : ∀ b ob, s.heap.get? b = some ob → h'.get? b = some ob := fun b ob e => hsb.extBut b ob (Nat.ne_of_lt (Heap.lt_size e)) (Heap.get?_push_of_some _ e)
  refine ⟨G.top.nolimit.keeps fun b ob e => keep b ob (S.fr.keep b ob e), ?_⟩
  have S1 := S.push ({ cls := .type "frame", data := .dict #[] } : Obj) rfl
  obtain ⟨oC, es, ep, hoC, hrC⟩ := id hn
  have S2 := S1.chg (.head _) hsb hoC (s.toks + 1)
  rw [chg_cons, chg_none (fun q hq => S1.off1 hq)] at S2
  have S3 := (S2.push ({ cls := .type "generator", data := .fields #[.int s.gens.size 0, .str (Str.ofString "_grouping_intervals") (s.toks + 1), .str (Str.ofString "_grouping_intervals") (s.toks + 1 + 1)] } : Obj) rfl).tk (s.toks + 1 + 1 + 1)
  dsimp only at S3
  refine k s.heap.objs.size h'.objs.size oC _ s.gens.size _ _ ⟨(S3.perm (List.Perm.swap ..)).fr, (S3.perm (List.Perm.swap ..)).nw, (S3.perm (List.Perm.swap ..)).nd, S.gb.push rfl, S3.os, S3.dr⟩ ⟨_, _, _, Heap.get?_push_size _ rfl, rfl, rfl, rfl⟩ (Array.getElem?_push_size ..) ?_
  intro A0 s' a b out hA hC' hls' hk' hg' hq
  have hn' : s'.heap.Ns s.heap.objs.size _ := hn.at fun ob e => by rw [hoC] at e; cases e; exact hC'
  have hDlt : D < s.heap.objs.size := by obtain ⟨oD, e, -⟩ := hls; exact Heap.lt_size e
  refine ⟨rfl, genStart (env := newEnv _ s.heap.objs.size _ _ _ _ _ _ _) ⟨rfl, by with_unfolding_all rfl, by with_unfolding_all rfl, by with_unfolding_all rfl, rfl, rfl, rfl⟩ (by with_unfolding_all rfl) G hA hn' (by tb_rel) hls' hk' hg' (Nat.le_trans S.fr.above (Nat.le_of_lt S.fr.ns.lt)) (Nat.ne_of_lt hDlt) d0 rfl hq⟩
end

end
section
open PySem.Spec PySem.Calls
structure LEnv (env : Env) (cr : Addr) : Prop where
  k : env.scope.kind = .function
  rooms : env.kindOf (Str.ofString "rooms") = some .local
  room : env.kindOf (Str.ofString "room") = some .cell
  cell : env.cells.lookup (Str.ofString "room") = some cr
  len : env.kindOf (Str.ofString "len") = some .globalImplicit
  g : env.globals = mainGlobals
  b : env.builtins = builtinsNs
noncomputable abbrev lBody (a1 a2 a3 a4 a5 b1 b2 b3 b4 b5 b6 b7 : Pos) (kd : Nat) : List Stmt :=
  [.Expr (.Call (.Attribute (.Name (Str.ofString "rooms") a1) (Str.ofString "append") a2) [.Name (Str.ofString "room") a3] [] a4) a5,
   .If (.Compare (.Call (.Name (Str.ofString "len") b1) [.Name (Str.ofString "rooms") b2] [] b3) [.Eq] [.Constant (.int 3) kd b4] b5) [.Break b6] [] b7]
section
variable {w : World} {A : Around} {E : Value → Shared → Prop} {s s₁ : Shared} {h₀ : Heap} {env : Env} {C I D cr Rm : Addr} {m : Str → Option Value} {M : List (Addr × Obj)} {o : OsState} {d : Drawn} {mean : ExcName → Option Value} {mg mb : Str → Option Value} {ocr : Obj} {g : Nat} {γ : Array GenState}
set_option maxHeartbeats 4000000 in
theorem lBody_run {a1 a2 a3 a4 a5 b1 b2 b3 b4 b5 b6 b7 px : Pos} {kd n : Nat} {rs : List Value} {v : Value} {v₀ : Option Value} (LE : LEnv env cr) (hline : (a2.endLine == a4.line) = true) (G : Gl w mean mg mb h₀) (hia : interactive env = false)
    (S : SatG γ h₀ env.locals m M o d s) (hc : (cr, ocr) ∈ M) (hcd : ocr.data = .cell v₀) (hr : (Rm, lsN rs n) ∈ M) (hm : m (Str.ofString "rooms") = some (.ref Rm)) (hz : rs.length ≤ 2) :
    wpAny (model PySem.Challenge.rw_xo0031_01.row.prog w) A (assign (.Name (Str.ofString "room") px) env v) (fun _ s₂ => wpAny (model PySem.Challenge.rw_xo0031_01.row.prog w) A (execs (lBody a1 a2 a3 a4 a5 b1 b2 b3 b4 b5 b6 b7 kd) env)
      (fun f s₃ => (∃ ocr', ocr'.data = .cell (some v) ∧ SatG γ h₀ env.locals m (chg (chg M cr ocr') Rm (lsN (rs ++ [v]) (n + 1))) o d s₃) ∧ f = if rs.length = 2 then .brk else .next) F0 s₂) F0 s := by
  have hne : Rm ≠ cr := S.sat.other hr hc fun e => by rw [← e] at hcd; cases hcd
  refine q_stc S hc hcd LE.k LE.room LE.cell fun ocr' s2 hd2 S2 => ?_
  have hr2 : (Rm, lsN rs n) ∈ chg M cr ocr' := chg_off hr hne
  have hc2 : (cr, ocr') ∈ chg M cr ocr' := chg_mem hc
  refine wpAny_execs_cons ?_
  refine wpAny_Expr_any ?_ hia rfl
  refine r_lmeth PySem.F.slot_list_append PySem.F.type_list_append ?_ rfl rfl rfl hline rfl
  refine r_loc S2.sat hm ?_ LE.k LE.rooms (by decide +kernel)
  refine ⟨Rm, rs, n, rfl, S2.at hr2, ?_⟩
  refine spliced_more ?_ rfl
  refine r_celM LE.cell S2.sat hc2 hd2 ?_ LE.room LE.k (by decide +kernel)
  refine spliced_none ?_
  refine q_app S2 hr2 (by omega) fun s3 S3 => ?_
  dsimp only
  refine wpAny_execs_cons (wpAny_If (wpAny_isTrue_Compare1 ?_ rfl))
  refine wpAny_Call_NameR ?_
  refine r_bltFS S3.sat G (by kernel_rfl) (by boot_by_name) ?_ (by decide +kernel) LE.k LE.len LE.g LE.b (by decide +kernel)
  refine PyProof.Rows.callWith_builtin1 ?_ rfl rfl
  refine spliced_more ?_ rfl
  refine r_loc S3.sat hm ?_ LE.k LE.rooms (by decide +kernel)
  refine spliced_none ?_
  refine q_lenL S3 ⟨_, S3.at (chg_mem hr2), rfl, _, rfl⟩ (by simp; omega) fun t4 s4 S4 => ?_
  refine q_kint S4 fun t5 s5 S5 => ?_
  refine eq_intR (wpAny_truthy_bool ?_)
  by_cases h : rs.length = 2
  · rw [if_pos (by simp [h])]
    refine wpAny_execs_cons (wpAny_Break ?_)
    exact ⟨⟨ocr', hd2, S5⟩, by rw [if_pos h]⟩
  · rw [if_neg (by simp; omega)]
    refine wpAny_execs_nil (wpAny_execs_nil ?_)
    exact ⟨⟨ocr', hd2, S5⟩, by rw [if_neg h]⟩
end

end
section
open PySem.Spec PySem.Calls
section
variable {w : World} {A : Around} {E : Value → Shared → Prop} {s s₁ : Shared} {h₀ : Heap} {env : Env} {L C I D cr Rm Gn : Addr} {m : Str → Option Value} {M : List (Addr × Obj)} {o : OsState} {d : Drawn} {mean : ExcName → Option Value} {mg mb : Str → Option Value} {oC oG oD ocr : Obj} {g k n kD : Nat} {gs : GenState} {out : Nat → Option Int} {vs : List Value} {a b : Int}
theorem Sat.ended {h' : Heap} (S : Sat h₀ L m ((C, oC) :: M) o d s) (kb : KeepBut C I (s.setGen g .running) s₁) (hk : ∀ b ob, s₁.heap.get? b = some ob → h'.get? b = some ob)
    (hIn : ∀ q ∈ (C, oC) :: M, q.1 ≠ I) (hI0 : h₀.get? I = none) (hIL : I ≠ L) : Sat h₀ L m M o d { s₁.setGen g .finished with heap := h' } := by
  obtain ⟨k1, k2, k3, k4⟩ := kb
  have hCn := S.nw _ (.head _)
  refine ⟨⟨S.fr.ns.at fun ob e => hk _ _ (k4 _ _ (Ne.symm hCn.2.1) (Ne.symm hIL) e), fun b ob e => hk _ _ (k4 b ob (fun q => ?_) (fun q => ?_) (S.fr.keep b ob e)), S.fr.above⟩, fun p hp => ?_, ?_, ?_, k2.trans S.os, k3.trans S.dr⟩
  · rw [q, hCn.2.2] at e; cases e
  · rw [q, hI0] at e; cases e
  · have h := S.nw p (.tail _ hp)
    exact ⟨hk _ _ (k4 _ _ (S.off1 hp) (hIn p (.tail _ hp)) h.1), h.2⟩
  · have nd := S.nd
    rw [List.map_cons, List.nodup_cons] at nd
    exact nd.2
  · show AllBare (s₁.gens.setIfInBounds g .finished)
    rw [k1]
    exact bare_set (bare_set S.gb rfl) rfl
noncomputable abbrev Future (w : World) (A0 : Around) (h₀ : Heap) (C I D : Addr) (out : Nat → Option Int) (oC oI oD : Obj) (gs : GenState) (k : Nat) : Prop :=
  ∀ s'' : Shared, (∀ b ob, h₀.get? b = some ob → s''.heap.get? b = some ob) → AllBare s''.gens → s''.heap.get? C = some oC → s''.heap.get? I = some oI → s''.heap.get? D = some oD → gs.Goes (model PySem.Challenge.rw_xo0031_01.row.prog w) A0 (RG C I out) (YG h₀ C I D out) k (.send .none) s''
theorem grp_step {Q : Option Value → Shared → Prop} (hh : A.handled = none) (hroom : A.depth < recursionLimit) (G : Gl w mean mg mb h₀) (S : Sat h₀ L m ((C, oC) :: M) o d s) (hg : s.heap.IsGen Gn g) (hgs : s.gens[g]? = some gs)
    (hD : (D, oD) ∈ M) (hIn : ∀ q ∈ (C, oC) :: M, q.1 ≠ I) (hI0 : h₀.get? I = none) (hIL : I ≠ L)
    (hgo : gs.Goes (model PySem.Challenge.rw_xo0031_01.row.prog w) A.in1 (RG C I out) (YG h₀ C I D out) (k + 1) (.send .none) (s.setGen g .running))
    (yields : ∀ x t oC' oI' gs' s1, out k = some x → Sat h₀ L m ((C, oC') :: (I, oI') :: M) o d s1 → s1.gens[g]? = some gs' → (k ≠ 0 → Future w A.in1 h₀ C I D out oC' oI' oD gs' k) → Q (some (.int x t)) s1)
    (ends : k = 0 → out 0 = none → ∀ s1, Sat h₀ L m M o d s1 → Q none s1) : wpAny (model PySem.Challenge.rw_xo0031_01.row.prog w) A (pyNext (.ref Gn)) Q E s := by
  refine next_gen hh (G.top.nolimit.keeps S.fr.keep) hroom hg hgs hgo (fun v s₁ gs' hb hv => ?_) (fun s₁ hp h' hk => ?_)
  · obtain ⟨⟨x, t, ho, rfl⟩, kb, oC', oI', oD', hC', hI', hD', fut⟩ := hv
    have S1 := S.woke kb hb hC' hI' hIn hI0 hIL (gs' := gs')
    refine yields x t oC' oI' gs' _ ho S1 (setGen_self (gs := .running) ?_) fun hk0 s'' h1 h2 h3 h4 h5 => ?_
    · rw [kb.1]; exact setGen_self hgs
    · have e : oD' = oD := by
        have := S1.at (.tail _ (.tail _ hD))
        exact Option.some.inj (hD'.symm.trans this)
      subst e
      exact fut hk0 s'' h1 h2 h3 h4 h5
  · obtain ⟨⟨h1, h2⟩, kb⟩ := hp
    exact ends (by omega) h2 _ (S.ended kb hk hIn hI0 hIL)
end

end
section
open PySem.Spec PySem.Calls
noncomputable def roomsF (a b : Int) (out : Nat → Option Int) : List Int := [a, b] ++ (match out 0 with | some x => [x] | none => [])
section
variable {w : World} {A : Around} {E : Value → Shared → Prop} {s s₁ : Shared} {h₀ : Heap} {env : Env} {C D cr Rm Gn : Addr} {m : Str → Option Value} {M : List (Addr × Obj)} {o : OsState} {d : Drawn} {mean : ExcName → Option Value} {mg mb : Str → Option Value} {oC oG ocr : Obj} {g n kD : Nat} {gs : GenState} {out : Nat → Option Int} {vs : List Value} {a b : Int}
/-- between the turns: k turns left -/
structure Lp (w : World) (A : Around) (h₀ : Heap) (env : Env) (m : Str → Option Value) (o : OsState) (d : Drawn) (M : List (Addr × Obj)) (out : Nat → Option Int) (C D cr Rm : Addr) (oD : Obj) (g k : Nat) (ns : List Int) (s : Shared) : Prop where
  ex : ∃ I oC oI gs rs nR ocr v M', Sat h₀ env.locals m ((C, oC) :: (I, oI) :: M') o d s ∧ s.gens[g]? = some gs ∧ Future w A.in1 h₀ C I D out oC oI oD gs k ∧
    (cr, ocr) ∈ M' ∧ ocr.data = .cell v ∧ (Rm, lsN rs nR) ∈ M' ∧ IntsAre rs ns ∧ (∀ q ∈ M, q.1 ≠ cr → q.1 ≠ Rm → q ∈ M') ∧ M'.map (·.1) = M.map (·.1)
set_option maxHeartbeats 4000000 in
/-- one turn -/
theorem grp_turn {a1 a2 a3 a4 a5 b1 b2 b3 b4 b5 b6 b7 px : Pos} {kd k : Nat} {ns : List Int} {R : Option Value → Shared → Prop} {x : Int} {t : Tok} {I : Addr} {oI : Obj} {oD : Obj} {rs : List Value} {M' : List (Addr × Obj)} {v : Option Value} {nR : Nat}
    {P : Flow → Shared → Prop} (LE : LEnv env cr) (hline : (a2.endLine == a4.line) = true) (G : Gl w mean mg mb h₀) (hia : interactive env = false)
    (S : Sat h₀ env.locals m ((C, oC) :: (I, oI) :: M') o d s) (hgs : s.gens[g]? = some gs) (hf : k ≠ 0 → Future w A.in1 h₀ C I D out oC oI oD gs k)
    (hc : (cr, ocr) ∈ M') (hcd : ocr.data = .cell v) (hr : (Rm, lsN rs nR) ∈ M') (hi : IntsAre rs ns) (hret : ∀ q ∈ M, q.1 ≠ cr → q.1 ≠ Rm → q ∈ M') (hks : M'.map (·.1) = M.map (·.1)) (hm : m (Str.ofString "rooms") = some (.ref Rm)) (hz : ns.length ≤ 2)
    (next : ns.length < 2 → k ≠ 0 → ∀ s', Lp w A h₀ env m o d M out C D cr Rm oD g k (ns ++ [x]) s' → P .next s')
    (last : ns.length = 2 → ∀ ocr' v' rs' n' M'' s', Sat h₀ env.locals m M'' o d s' → (cr, ocr') ∈ M'' → ocr'.data = .cell v' → (Rm, lsN rs' n') ∈ M'' → IntsAre rs' (ns ++ [x]) → (∀ q ∈ M, q.1 ≠ cr → q.1 ≠ Rm → q ∈ M'') → P .brk s') (hk : ns.length < 2 → k ≠ 0) :
    wpAny (model PySem.Challenge.rw_xo0031_01.row.prog w) A (assign (.Name (Str.ofString "room") px) env (.int x t)) (fun _ s₂ => wpAny (model PySem.Challenge.rw_xo0031_01.row.prog w) A (execs (lBody a1 a2 a3 a4 a5 b1 b2 b3 b4 b5 b6 b7 kd) env) P F0 s₂) F0 s := by
  have hlen : rs.length = ns.length := ints_len hi
  refine wpAny_mono (lBody_run (a1 := a1) (a2 := a2) (a3 := a3) (a4 := a4) (a5 := a5) (b1 := b1) (b2 := b2) (b3 := b3) (b4 := b4) (b5 := b5) (b6 := b6) (b7 := b7) (kd := kd) LE hline G hia (⟨S, rfl⟩ : SatG s.gens h₀ env.locals m _ o d s) (.tail _ (.tail _ hc)) hcd (.tail _ (.tail _ hr)) hm (by omega)) (fun _ s2 h2 => wpAny_mono h2 (fun f s3 h3 => ?_) fun _ _ z => z) fun _ _ z => z
  obtain ⟨⟨ocr', hcd', S3⟩, rfl⟩ := h3
  have hC : ∀ q ∈ M', q.1 ≠ C := fun q hq => S.off1 (.tail _ hq)
  have hI : ∀ q ∈ M', q.1 ≠ I := fun q hq => by
    have := S.nd
    rw [List.map_cons, List.map_cons, List.nodup_cons, List.nodup_cons] at this
    exact fun e => this.2.1 (List.mem_map.mpr ⟨q, hq, e⟩)
  have hne : Rm ≠ cr := S.other (.tail _ (.tail _ hr)) (.tail _ (.tail _ hc)) fun e => by rw [← e] at hcd; cases hcd
  rw [chg_skip ((I, oI) :: M') (C, oC) cr ocr' (Ne.symm (hC _ hc)), chg_skip M' (I, oI) cr ocr' (Ne.symm (hI _ hc)), chg_skip _ (C, oC) Rm _ (Ne.symm (hC _ hr)), chg_skip _ (I, oI) Rm _ (Ne.symm (hI _ hr))] at S3
  have hr' : (Rm, lsN (rs ++ [.int x t]) (nR + 1)) ∈ chg (chg M' cr ocr') Rm (lsN (rs ++ [.int x t]) (nR + 1)) := chg_mem (chg_off hr hne)
  have hc' : (cr, ocr') ∈ chg (chg M' cr ocr') Rm (lsN (rs ++ [.int x t]) (nR + 1)) := chg_off (chg_mem hc) (Ne.symm hne)
  have hret' : ∀ q ∈ M, q.1 ≠ cr → q.1 ≠ Rm → q ∈ chg (chg M' cr ocr') Rm (lsN (rs ++ [.int x t]) (nR + 1)) := fun q hq h1 h2 => chg_off (chg_off (hret q hq h1 h2) h1) h2
  by_cases h : ns.length = 2
  · rw [if_pos (by omega)]
    exact last h ocr' _ _ _ _ s3 S3.sat (.tail _ (.tail _ hc')) hcd' (.tail _ (.tail _ hr')) (ints_snoc hi _ _) fun q hq h1 h2 => .tail _ (.tail _ (hret' q hq h1 h2))
  · rw [if_neg (by omega)]
    have hk0 := hk (by omega)
    refine next (by omega) hk0 s3 ⟨I, oC, oI, gs, _, _, ocr', _, _, S3.sat, by rw [S3.ge]; exact hgs, hf hk0, hc', hcd', hr', ints_snoc hi _ _, hret', by rw [chg_keys, chg_keys, hks]⟩
end

end
section
open PySem.Spec PySem.Calls
section
variable {w : World} {A : Around} {E : Value → Shared → Prop} {s s₁ : Shared} {h₀ : Heap} {env : Env} {C D cr Rm Gn : Addr} {m : Str → Option Value} {M : List (Addr × Obj)} {o : OsState} {d : Drawn} {mean : ExcName → Option Value} {mg mb : Str → Option Value} {oC oG ocr : Obj} {g n kD : Nat} {gs : GenState} {out : Nat → Option Int} {vs : List Value} {a b : Int}
set_option maxHeartbeats 4000000 in
/-- for room in _grouping_intervals(..) -/
theorem grp_for {a1 a2 a3 a4 a5 b1 b2 b3 b4 b5 b6 b7 px : Pos} {kd : Nat} {v₀ : Option Value} {Q : Flow → Shared → Prop} (LE : LEnv env cr) (hline : (a2.endLine == a4.line) = true) (G : Gl w mean mg mb h₀) (hia : interactive env = false)
    (hh : A.handled = none) (hroom : A.depth < recursionLimit) (S : Sat h₀ env.locals m ((C, oC) :: M) o d s) (hG : (Gn, oG) ∈ M) (hg : s.heap.IsGen Gn g) (hgs : s.gens[g]? = some gs) (fresh : FreshG w h₀ C D oC vs gs) (hq : Asks vs a b out)
    (hD : (D, lsN vs kD) ∈ M) (hDR : D ≠ Rm) (hc : (cr, ocr) ∈ M) (hcd : ocr.data = .cell v₀) (hr : (Rm, lsN [] n) ∈ M) (hm : m (Str.ofString "rooms") = some (.ref Rm))
    (done : ∀ ocr' v' rs' n' M' s', Sat h₀ env.locals m M' o d s' → (cr, ocr') ∈ M' → ocr'.data = .cell v' → (Rm, lsN rs' n') ∈ M' → IntsAre rs' (roomsF a b out) → (∀ q ∈ M, q.1 ≠ cr → q.1 ≠ Rm → q ∈ M') → Q .next s') :
    ForIt PySem.Challenge.rw_xo0031_01.row.prog w A env (.Name (Str.ofString "room") px) (lBody a1 a2 a3 a4 a5 b1 b2 b3 b4 b5 b6 b7 kd) Q (.ref Gn) s := by
  have hDc : D ≠ cr := S.other (.tail _ hD) (.tail _ hc) fun e => by rw [← e] at hcd; cases hcd
  obtain ⟨oG', nm, qn, hoG, hcG, hdG, hsG⟩ := id hg
  have eG : oG' = oG := Option.some.inj (hoG.symm.trans (S.at (.tail _ hG)))
  subst eG
  have hGc : Gn ≠ cr := S.other (.tail _ hG) (.tail _ hc) fun e => by rw [← e, hdG] at hcd; cases hcd
  have hGR : Gn ≠ Rm := S.other (.tail _ hG) (.tail _ hr) fun e => by rw [e] at hcG; exact absurd hcG (show Value.type "list" ≠ Value.type "generator" by decide)
  have again : ∀ (k : Nat) (ns : List Int) (s' : Shared) (Q' : Option Value → Shared → Prop), Lp w A h₀ env m o d M out C D cr Rm (lsN vs kD) g (k + 1) ns s' →
      (∀ x t I oC oI gs rs nR ocr v M' s1, out k = some x → Sat h₀ env.locals m ((C, oC) :: (I, oI) :: M') o d s1 → s1.gens[g]? = some gs → (k ≠ 0 → Future w A.in1 h₀ C I D out oC oI (lsN vs kD) gs k) →
        (cr, ocr) ∈ M' → ocr.data = .cell v → (Rm, lsN rs nR) ∈ M' → IntsAre rs ns → (∀ q ∈ M, q.1 ≠ cr → q.1 ≠ Rm → q ∈ M') → M'.map (·.1) = M.map (·.1) → Q' (some (.int x t)) s1) →
      (k = 0 → out 0 = none → ∀ ocr' v' rs' n' M' s1, Sat h₀ env.locals m M' o d s1 → (cr, ocr') ∈ M' → ocr'.data = .cell v' → (Rm, lsN rs' n') ∈ M' → IntsAre rs' ns → (∀ q ∈ M, q.1 ≠ cr → q.1 ≠ Rm → q ∈ M') → Q' none s1) →
      wpAny (model PySem.Challenge.rw_xo0031_01.row.prog w) A (pyNext (.ref Gn)) Q' F0 s' := by
    rintro k ns s' Q' ⟨I, oC1, oI1, gs1, rs, nR, ocr1, v, M1, S1, hgs1, fut, hc1, hcd1, hr1, hi1, hret1, hks1⟩ yes no
    have nd := S1.nd
    rw [List.map_cons, List.map_cons, List.nodup_cons, List.nodup_cons] at nd
    have hIn := S1.nw (I, oI1) (.tail _ (.head _))
    have S1' : Sat h₀ env.locals m ((C, oC1) :: M1) o d s' := S1.sub (fun p hp => by
      rcases List.mem_cons.mp hp with rfl | hp
      · exact .head _
      · exact .tail _ (.tail _ hp)) (by
      rw [List.map_cons, List.nodup_cons]
      exact ⟨fun h => nd.1 (.tail _ h), nd.2.2⟩)
    have hD1 := hret1 _ hD hDc hDR
    have hG1 := hret1 _ hG hGc hGR
    refine grp_step hh hroom G S1' ⟨_, nm, qn, S1'.at (.tail _ hG1), hcG, hdG, hsG⟩ hgs1 hD1 (fun q hq e => ?_) hIn.2.2 hIn.2.1 (fut _ S1.fr.keep (bare_set S1.gb rfl) (S1.at (.head _)) (S1.at (.tail _ (.head _))) (S1'.at (.tail _ hD1))) (fun x t oC' oI' gs' s1 ho Sx hgx hfx => ?_) (fun hk0 ho s1 Sx => ?_)
    · rcases List.mem_cons.mp hq with rfl | hq
      · exact nd.1 (by rw [show C = I from e]; exact .head _)
      · exact nd.2.1 (List.mem_map.mpr ⟨q, hq, e⟩)
    · exact yes x t I oC' oI' gs' rs nR ocr1 v M1 s1 ho Sx hgx hfx hc1 hcd1 hr1 hi1 hret1 hks1
    · exact no hk0 ho ocr1 v rs nR M1 s1 Sx hc1 hcd1 hr1 hi1 hret1
  refine ⟨fun k s' => (k = 3 ∧ s' = s) ∨ (k = 2 ∧ Lp w A h₀ env m o d M out C D cr Rm (lsN vs kD) g 2 [a] s') ∨ (k = 1 ∧ Lp w A h₀ env m o d M out C D cr Rm (lsN vs kD) g 1 [a, b] s'), 3, .inl ⟨rfl, rfl⟩, ?_⟩
  rintro k s' (⟨rfl, rfl⟩ | ⟨rfl, X⟩ | ⟨rfl, X⟩)
  · refine grp_step (k := 2) hh hroom G S ⟨_, nm, qn, hoG, hcG, hdG, hsG⟩ hgs hD S.freshM S.fresh₀ (Nat.ne_of_gt S.fr.ns.lt) (fresh A.in1 (s'.setGen g .running) a b out hh (S.at (.head _)) ⟨_, S.at (.tail _ hD), rfl, _, rfl⟩ S.fr.keep (bare_set S.gb rfl) hq) (fun x t oC' oI' gs' s1 ho Sx hgx hfx => ?_) (fun hk0 => by omega)
    have hx : x = a := by rw [hq.oa] at ho; exact (Option.some.inj ho).symm
    subst hx
    exact grp_turn (k := 2) (ns := []) (R := fun _ _ => True) LE hline G hia Sx hgx hfx hc hcd hr .nil (fun q hq _ _ => hq) rfl hm (by simp) (fun _ _ s2 X2 => ⟨2, by omega, .inr (.inl ⟨rfl, X2⟩)⟩) (fun h => by simp at h) (fun _ => by omega)
  · refine again 1 [a] s' _ X (fun x t I oC oI gs rs nR ocr v M1 s1 ho Sx hgx hfx hc1 hcd1 hr1 hi1 hret1 hks1 => ?_) (fun hk0 => by omega)
    have hx : x = b := by rw [hq.ob] at ho; exact (Option.some.inj ho).symm
    subst hx
    exact grp_turn (k := 1) (ns := [a]) (R := fun _ _ => True) LE hline G hia Sx hgx hfx hc1 hcd1 hr1 hi1 hret1 hks1 hm (by simp) (fun _ _ s2 X2 => ⟨1, by omega, .inr (.inr ⟨rfl, X2⟩)⟩) (fun h => by simp at h) (fun _ => by omega)
  · refine again 0 [a, b] s' _ X (fun x t I oC oI gs rs nR ocr v M1 s1 ho Sx hgx hfx hc1 hcd1 hr1 hi1 hret1 hks1 => ?_) (fun _ ho ocr' v' rs' n' M1 s1 Sx hc1 hcd1 hr1 hi1 hret1 => ?_)
    · refine grp_turn (k := 0) (ns := [a, b]) (R := fun _ _ => True) LE hline G hia Sx hgx hfx hc1 hcd1 hr1 hi1 hret1 hks1 hm (by simp) (fun h => by simp at h) (fun _ ocr' v' rs' n' M2 s2 S2 hc2 hcd2 hr2 hi2 hret2 => ?_) (fun h => by simp at h)
      refine done ocr' v' rs' n' M2 s2 S2 hc2 hcd2 hr2 ?_ hret2
      rw [roomsF, ho]; exact hi2
    · refine done ocr' v' rs' n' M1 s1 Sx hc1 hcd1 hr1 ?_ hret1
      rw [roomsF, ho, List.append_nil]; exact hi1
end

end
section
open PySem.Spec PySem.Calls
section
variable {prog : Program} {w : World} {A : Around} {E : Value → Shared → Prop} {s : Shared} {env : Env} {h₀ : Heap} {m : Str → Option Value} {M : List (Addr × Obj)} {o : OsState} {d : Drawn}
theorem Sat.with2 {L : Addr} {a b : Addr} {oa ob : Obj} {h' : Heap} {tk : Nat} (S : Sat h₀ L m M o d s) (hk : ∀ c oc, c ≠ a → c ≠ b → s.heap.get? c = some oc → h'.get? c = some oc) (ha : h'.get? a = some oa) (hb : h'.get? b = some ob)
    (hab : a ≠ b) (hM : ∀ p ∈ M, p.1 ≠ a ∧ p.1 ≠ b) (h0 : h₀.get? a = none ∧ h₀.get? b = none) (hL : a ≠ L ∧ b ≠ L) : Sat h₀ L m ((a, oa) :: (b, ob) :: M) o d { s with heap := h', toks := tk } := by
  refine ⟨⟨S.fr.ns.at fun ob e => hk _ _ (Ne.symm hL.1) (Ne.symm hL.2) e, fun c oc e => hk c oc (fun q => ?_) (fun q => ?_) (S.fr.keep c oc e), S.fr.above⟩, fun p hp => ?_, ?_, S.gb, S.os, S.dr⟩
  · rw [q, h0.1] at e; cases e
  · rw [q, h0.2] at e; cases e
  · rcases List.mem_cons.mp hp with rfl | hp
    · exact ⟨ha, hL.1, h0.1⟩
    rcases List.mem_cons.mp hp with rfl | hp
    · exact ⟨hb, hL.2, h0.2⟩
    · exact ⟨hk _ _ (hM p hp).1 (hM p hp).2 (S.nw p hp).1, (S.nw p hp).2⟩
  · rw [List.map_cons, List.map_cons, List.nodup_cons, List.nodup_cons]
    refine ⟨fun h => ?_, fun h => ?_, S.nd⟩
    · rcases List.mem_cons.mp h with h | h
      · exact hab h
      · obtain ⟨p, hp, e⟩ := List.mem_map.mp h
        exact (hM p hp).1 e
    · obtain ⟨p, hp, e⟩ := List.mem_map.mp h
      exact (hM p hp).2 e
theorem Sat.drop2 {L : Addr} {p q : Addr × Obj} (S : Sat h₀ L m (p :: q :: M) o d s) : Sat h₀ L m M o d s := S.sub (fun x hx => .tail _ (.tail _ hx)) (by
  have := S.nd
  rw [List.map_cons, List.map_cons, List.nodup_cons, List.nodup_cons] at this
  exact this.2.2)
set_option maxHeartbeats 4000000 in
/-- for i, v in enumerate(a list of the ledger) -/
theorem r_enumFor {xi xv : Str} {pi pv pt : Pos} {x1 : Nat} {body : List Stmt} {Q : Flow → Shared → Prop} {l : Addr} {vs : List Value} {n : Nat} (hh : A.handled = none) (S : Sat h₀ env.locals m M o d s) (hl : (l, lsN vs n) ∈ M)
    (hxi : env.kindOf xi = some .local) (hxv : env.kindOf xv = some .local) (hp : (env.scope.kind == .class || (env.scope.kind == .module && env.locals != env.globals)) = false)
    (J : Nat → (Str → Option Value) → List (Addr × Obj) → Prop) (hj : J 0 m M) (hJ : ∀ i m M, J i m M → (l, lsN vs n) ∈ M)
    (turn : ∀ i v tk m₁ M₁ e oe it oit s₁, vs[i]? = some v → J i m₁ M₁ → Sat h₀ env.locals (fun y => if y = xv then some v else if y = xi then some (.int (i : Nat) tk) else m₁ y) ((e, oe) :: (it, oit) :: M₁) o d s₁ →
      wpAny (model prog w) A (execs body env) (fun f s' => f = .next ∧ ∃ m' M', Sat h₀ env.locals m' ((e, oe) :: (it, oit) :: M') o d s' ∧ J (i + 1) m' M') F0 s₁)
    (done : ∀ m₁ M₁ s₁, J vs.length m₁ M₁ → Sat h₀ env.locals m₁ M₁ o d s₁ → Q .next s₁) :
    wpAny (model prog w) A (call (.type "enumerate") [.ref l]) (fun x s₁ => wpAny (model prog w) A (pyIter x) (ForItG prog w A env (.Tuple [.Name xi pi, .Name xv pv] x1 pt) body Q) E s₁) E s := by
  refine call_enumerate_list ⟨_, S.at hl, rfl, _, rfl⟩ fun h1 he hit hsz hk1 => ?_
  refine wpAny_pyIter_enum he ?_
  have hL := S.fr.ns.lt
  have hlt : l < s.heap.objs.size := Heap.lt_size (S.at hl)
  generalize hit' : s.heap.objs.size = it at *
  generalize het : it + 1 = e at *
  have hne : e ≠ it := by omega
  have hM0 : ∀ p ∈ M, p.1 ≠ e ∧ p.1 ≠ it := fun p hp => by
    have : p.1 < s.heap.objs.size := Heap.lt_size (S.at hp)
    rw [hit'] at this
    exact ⟨Nat.ne_of_lt (het ▸ Nat.lt_succ_of_lt this), Nat.ne_of_lt this⟩
  have hf : ∀ a : Nat, it ≤ a → h₀.get? a = none := fun a ha => by
    cases e0 : h₀.get? a with
    | none => rfl
    | some o' =>
      have h1 : a < h₀.objs.size := Heap.lt_size e0
      exact absurd (Nat.lt_of_lt_of_le h1 (Nat.le_trans S.fr.above (Nat.le_trans (Nat.le_of_lt hL) ha))) (Nat.lt_irrefl _)
  have h0 : h₀.get? e = none ∧ h₀.get? it = none := ⟨hf e (het ▸ Nat.le_succ _), hf it (Nat.le_refl _)⟩
  have hLe : e ≠ env.locals ∧ it ≠ env.locals := ⟨Nat.ne_of_gt (het ▸ Nat.lt_succ_of_lt hL), Nat.ne_of_gt hL⟩
  have S1 : Sat h₀ env.locals m M o d { s with heap := h1 } := S.kept (tk := s.toks) hk1
  refine ⟨fun k s' => ∃ i m₁ M₁ old, i ≤ vs.length ∧ k = vs.length - i ∧ IsEnum s'.heap e it (i : Nat) old ∧ s'.heap.IsListIter it l i ∧ Sat h₀ env.locals m₁ M₁ o d s' ∧ (∀ p ∈ M₁, p.1 ≠ e ∧ p.1 ≠ it) ∧ J i m₁ M₁, vs.length,
    ⟨0, m, M, .none, Nat.zero_le _, rfl, he, hit, S1, hM0, hj⟩, ?_⟩
  rintro k s' ⟨i, m₁, M₁, old, hi, rfl, he', hit2, S', hM', hj'⟩
  have hl' : s'.heap.IsList l vs.toArray := ⟨_, S'.at (hJ _ _ _ hj'), rfl, _, rfl⟩
  by_cases hlt2 : i < vs.length
  · obtain ⟨v, hv⟩ : ∃ v, vs[i]? = some v := ⟨_, List.getElem?_eq_getElem hlt2⟩
    refine wpAny_pyNext_enum_item he' hit2 hl' (by simpa using hv) hne fun h2 he2 hit3 htup hsz2 hk2 => ?_
    dsimp only
    refine wpAny_letOwnedTupleGo_enum he2 fun h3 he3 hs3 => ?_
    obtain ⟨oit, hoit, hcit, hdit⟩ := hit3
    have hoit3 : h3.get? it = some oit := (hs3.2 _ (Ne.symm hne)).trans hoit
    have hTlt : s'.heap.objs.size ≠ e := Nat.ne_of_gt (Heap.lt_size he')
    have htup3 : h3.get? s'.heap.objs.size = some { cls := .type "tuple", data := .seq #[.int i s'.toks, v] } := (hs3.2 _ hTlt).trans htup
    have S3 : Sat h₀ env.locals m₁ ((e, _) :: (it, oit) :: M₁) o d { s' with heap := h3, toks := s'.toks + 1 } :=
      S'.with2 (fun c oc h1 h2' e' => (hs3.2 c h1).trans (hk2 c oc h1 h2' e')) he3 hoit3 hne hM' h0 hLe
    refine r_asgP hh S3 ⟨_, htup3, rfl, 0, rfl⟩ (fun s4 S4 => ?_) hxi hxv hp
    refine wpAny_mono (turn i v s'.toks m₁ M₁ e _ it oit s4 hv hj' S4) (fun f s5 h5 => ?_) fun _ _ z => z
    obtain ⟨rfl, m', M', S5, hJ5⟩ := h5
    have nd := S5.nd
    rw [List.map_cons, List.map_cons, List.nodup_cons, List.nodup_cons] at nd
    exact ⟨vs.length - (i + 1), by omega, i + 1, m', M', _, by omega, rfl, S5.at (.head _), ⟨oit, S5.at (.tail _ (.head _)), hcit, hdit⟩, S5.drop2, fun p hp => ⟨fun q => nd.1 (.tail _ (List.mem_map.mpr ⟨p, hp, q⟩)), fun q => nd.2.1 (List.mem_map.mpr ⟨p, hp, q⟩)⟩, hJ5⟩
  · have : i = vs.length := by omega
    subst this
    refine wpAny_pyNext_enum_end hh he' hit2 hl' (by simp) fun h2 hx => ?_
    exact done m₁ M₁ _ hj' (S'.sub (M' := M₁) (fun _ h => h) S'.nd |> fun S'' => ⟨S''.fr.ns.at fun ob e' => hx _ ob (Ne.symm hLe.2) e', fun b ob e' => hx b ob (fun q => by rw [q, h0.2] at e'; cases e') (S''.fr.keep b ob e'), S''.fr.above⟩ |> fun F => ⟨F, fun p hp => ⟨hx _ _ (hM' p hp).2 (S'.nw p hp).1, (S'.nw p hp).2⟩, S'.nd, S'.gb, S'.os, S'.dr⟩)
end

end
section
open PySem.Spec PySem.Calls PySem.SeqAt
theorem ints_reads {h : Heap} : ∀ {vs : List Value} {ns : List Int}, IntsAre vs ns → ReadsAll h vs (ns.map PyData.int) []
  | _, _, .nil => .nil
  | _, _, .cons n t hr => .cons (.int n t) (ints_reads hr)
theorem ints_lay : ∀ l : List Int, PyData.canLayAll0 (l.map PyData.int) = true
  | [] => rfl
  | p :: l => by rw [List.map_cons, PyData.canLayAll0, ints_lay l]; rfl
theorem ints_depth : ∀ l : List Int, PyData.depthAll (l.map PyData.int) ≤ 1
  | [] => by simp [PyData.depthAll]
  | p :: l => by rw [List.map_cons, PyData.depthAll]; have := ints_depth l; have e : (PyData.int p).depth = 0 := rfl; omega
theorem ints_eqv : ∀ l k : List Int, PyData.eqvAll (l.map PyData.int) (k.map PyData.int) = decide (l = k)
  | [], [] => by simp [PyData.eqvAll]
  | [], _ :: _ => by simp [PyData.eqvAll]
  | _ :: _, [] => by simp [PyData.eqvAll]
  | p :: l, q :: k => by
    rw [List.map_cons, List.map_cons, PyData.eqvAll, ints_eqv l k]
    show ((p == q) && _) = _
    by_cases h1 : p = q <;> by_cases h2 : l = k <;> simp [h1, h2]
section
variable {prog : Program} {w : World} {A : Around} {E : Value → Shared → Prop} {s s' : Shared} {env : Env} {h₀ : Heap} {L : Addr} {m : Str → Option Value} {M N : List (Addr × Obj)} {o : OsState} {d : Drawn}
theorem r_neInts {a b : Addr} {vs us : List Value} {n1 n2 : Nat} {ns ks : List Int} {Q : Value → Shared → Prop} (hu : A.units + 20 < cLine) (S : Sat h₀ L m M o d s) (ha : (a, lsN vs n1) ∈ M) (hb : (b, lsN us n2) ∈ M) (hi : IntsAre vs ns) (hk : IntsAre us ks)
    (k : Q (.bool (!decide (ns = ks))) s) : wpAny (model prog w) A (compareOp .NotEq (.ref a) (.ref b)) Q E s := by
  refine compareNe_reads (da := .list (ns.map PyData.int)) (db := .list (ks.map PyData.int)) (.list (S.at ha) rfl rfl (by simpa using ints_reads hi)) (.list (S.at hb) rfl rfl (by simpa using ints_reads hk)) (ints_lay ns) (ints_lay ks) ?_ ?_
  · have h1 : (PyData.list (ns.map PyData.int)).depth = PyData.depthAll (ns.map PyData.int) + 1 := rfl
    have := ints_depth ns
    omega
  · have e : PyData.eqv (.list (ns.map PyData.int)) (.list (ks.map PyData.int)) = PyData.eqvAll (ns.map PyData.int) (ks.map PyData.int) := rfl
    rw [e, ints_eqv]; exact k
theorem r_nePrs {a b : Addr} {vs us : List Value} {n1 n2 : Nat} {ps qs : List (Int × Int)} {Q : Value → Shared → Prop} (hu : A.units + 20 < cLine) (S : Sat h₀ L m M o d s) (ha : (a, lsN vs n1) ∈ M) (hb : (b, lsN us n2) ∈ M) (hi : PrsM M vs ps) (hk : PrsM M us qs)
    (k : Q (.bool (!decide (ps = qs))) s) : wpAny (model prog w) A (compareOp .NotEq (.ref a) (.ref b)) Q E s := by
  refine compareNe_reads (da := .list (ps.map pd)) (db := .list (qs.map pd)) (.list (S.at ha) rfl rfl (by simpa using prs_reads (hi.at S))) (.list (S.at hb) rfl rfl (by simpa using prs_reads (hk.at S))) (pds_lay ps) (pds_lay qs) ?_ ?_
  · have h1 : (PyData.list (ps.map pd)).depth = PyData.depthAll (ps.map pd) + 1 := rfl
    have := pds_depth ps
    omega
  · have e : PyData.eqv (.list (ps.map pd)) (.list (qs.map pd)) = PyData.eqvAll (ps.map pd) (qs.map pd) := rfl
    rw [e, pds_eqv]; exact k
theorem r_powI {a n : Int} {t u : Tok} {Q : Value → Shared → Prop} (S : Sat h₀ L m M o d s) (hn : 0 ≤ n) (hn2 : n ≤ 1000) (ha : a.natAbs < 100) (k : ∀ t s', Sat h₀ L m M o d s' → Q (.int (a ^ n.toNat) t) s') :
    wpAny (model prog w) A (binaryOp .Pow (.int a t) (.int n u)) Q E s := PyProof.Rows.pow_int_small hn (by omega) (by omega) (k _ _ (S.tk _))
theorem r_fdivI {a b : Int} {t u : Tok} {Q : Value → Shared → Prop} (S : Sat h₀ L m M o d s) (hb : 0 < b) (hb2 : b < 1000000) (k : ∀ t s', Sat h₀ L m M o d s' → Q (.int (a / b) t) s') :
    wpAny (model prog w) A (binaryOp .FloorDiv (.int a t) (.int b u)) Q E s := by
  refine PyProof.Rows.floordiv_int (by omega) ?_ (.inl (PyProof.noPylong_small (by omega)))
  rw [Int.fdiv_eq_ediv_of_nonneg _ (by omega)]
  exact k _ _ (S.tk _)
theorem r_modI {a b : Int} {t u : Tok} {Q : Value → Shared → Prop} (S : Sat h₀ L m M o d s) (hb : 0 < b) (k : ∀ t s', Sat h₀ L m M o d s' → Q (.int (a % b) t) s') :
    wpAny (model prog w) A (binaryOp .Mod (.int a t) (.int b u)) Q E s := by
  refine r_mod S (by omega) ?_
  rw [Int.fmod_eq_emod_of_nonneg _ (by omega)]
  exact k
/-- a list's slice: [:y] -/
theorem r_slcUp {value upper : Expr} {p pos : Pos} {Q : Value → Shared → Prop}
    (h : wpAny (model prog w) A (eval value env) (fun ov s₁ => wpAny (model prog w) A (eval upper env) (fun uv s₂ => ∃ h₀ L m M o d l vs ns y t, Sat h₀ L m M o d s₂ ∧ ov = .ref l ∧ uv = .int y t ∧ 0 ≤ y ∧ s₂.heap.IsList l vs.toArray ∧ IntsAre vs ns ∧ vs.length ≤ 1000 ∧
      (∀ D us s', Sat h₀ L m ((D, lsN us 0) :: M) o d s' → IntsAre us (ns.take y.toNat) → Q (.ref D) s')) E s₁) E s)
    (ht : ∀ o r, letTemporaryGo value o r = pure () := by intro _ _; rfl) :
    wpAny (model prog w) A (eval (.Subscript value (.Slice none (some upper) none p) pos) env) Q E s := by
  refine wpAny_Subscript_list_slice (wpAny_mono h (fun ov s₁ h₁ => ?_) fun _ _ e => e) ht
  rw [evalPart_none]
  refine wpAny_pure (wpAny_mono h₁ (fun uv s₂ h₂ => ?_) fun _ _ e => e)
  obtain ⟨h₀, L, m, M, o, d, l, vs, ns, y, t, S, rfl, rfl, h0, hl, hi, hz, k⟩ := h₂
  refine ⟨l, vs.toArray, none, some y, rfl, hl, by rw [List.size_toArray, sizeLine_eq]; omega, .none, .int _ _, ?_⟩
  have S1 := (S.pushed ({ cls := .type "slice", data := .fields #[.none, .int y t, .none] } : Obj)).push ({ cls := .type "list", data := .seq (slicePick vs.toArray none (some y) none) } : Obj) rfl
  have e : s₂.heap.objs.size + 1 = (s₂.heap.push ({ cls := .type "slice", data := .fields #[.none, .int y t, .none] } : Obj)).objs.size := (Heap.size_push ..).symm
  rw [e]
  refine k _ (slicePick vs.toArray none (some y) none).toList _ ?_ (slice_ints_uptoW hi h0)
  simpa using S1
theorem r_slcFrom {value lower : Expr} {p pos : Pos} {Q : Value → Shared → Prop}
    (h : wpAny (model prog w) A (eval value env) (fun ov s₁ => wpAny (model prog w) A (eval lower env) (fun uv s₂ => ∃ h₀ L m M o d l vs ns y t, Sat h₀ L m M o d s₂ ∧ ov = .ref l ∧ uv = .int y t ∧ 0 ≤ y ∧ s₂.heap.IsList l vs.toArray ∧ IntsAre vs ns ∧ vs.length ≤ 1000 ∧
      (∀ D us s', Sat h₀ L m ((D, lsN us 0) :: M) o d s' → IntsAre us (ns.drop y.toNat) → Q (.ref D) s')) E s₁) E s)
    (ht : ∀ o r, letTemporaryGo value o r = pure () := by intro _ _; rfl) :
    wpAny (model prog w) A (eval (.Subscript value (.Slice (some lower) none none p) pos) env) Q E s := by
  refine wpAny_Subscript_list_slice (wpAny_mono h (fun ov s₁ h₁ => wpAny_mono h₁ (fun uv s₂ h₂ => ?_) fun _ _ e => e) fun _ _ e => e) ht
  rw [evalPart_none]
  refine wpAny_pure ?_
  obtain ⟨h₀, L, m, M, o, d, l, vs, ns, y, t, S, rfl, rfl, h0, hl, hi, hz, k⟩ := h₂
  refine ⟨l, vs.toArray, some y, none, rfl, hl, by rw [List.size_toArray, sizeLine_eq]; omega, .int _ _, .none, ?_⟩
  have S1 := (S.pushed ({ cls := .type "slice", data := .fields #[.int y t, .none, .none] } : Obj)).push ({ cls := .type "list", data := .seq (slicePick vs.toArray (some y) none none) } : Obj) rfl
  have e : s₂.heap.objs.size + 1 = (s₂.heap.push ({ cls := .type "slice", data := .fields #[.int y t, .none, .none] } : Obj)).objs.size := (Heap.size_push ..).symm
  rw [e]
  refine k _ (slicePick vs.toArray (some y) none none).toList _ ?_ (slice_ints_fromW hi h0)
  simpa using S1
end

end
section
open PySem.Spec PySem.Calls PySem.StrLaws Builtin Builtin.Str
theorem lit_bo : Str.ofString " o" = T [32, 111] := by decide +kernel
theorem lit_tab : Str.ofString "\t" = T [9] := by decide +kernel
theorem lit_bt : Str.ofString " \t" = T [32, 9] := by decide +kernel
theorem lit_xb : Str.ofString "x " = T [120, 32] := by decide +kernel
/-- blanks with a tab right behind, struck out -/
noncomputable def remF : List Nat → List Nat
  | c :: d :: r => if c = 32 ∧ d = 9 then remF r else c :: remF (d :: r)
  | l => l
/-- where they stand -/
noncomputable def occF : Nat → List Nat → List Nat
  | i, c :: d :: r => if c = 32 ∧ d = 9 then i :: occF (i + 2) r else occF (i + 1) (d :: r)
  | _, _ => []
theorem subAt_bt (l : List Nat) (i : Nat) : subAt (T l) (T [32, 9]) i = ((l.drop i).take 2 == [32, 9]) := by
  rw [subAt_eq]; rfl
theorem T_len' (l : List Nat) : (T l).length = l.length := T_length l
theorem occ_run (l : List Nat) : ∀ (k i : Nat) (acc : Array Nat) (free : Nat), k = l.length - i → i ≤ l.length → free ≤ i → acc.size ≤ i →
    (forIn (List.range' i (l.length + 1 - i)) (acc, free) (occBody (T l) (T [32, 9]) (T l).length ((T l).length + 1))).run.fst.toList = acc.toList ++ occF i (l.drop i) := by
  intro k
  induction k using Nat.strongRecOn with
  | ind k ih =>
    intro i acc free hk hi hf ha
    rw [show l.length + 1 - i = (l.length - i) + 1 by omega, List.range'_succ, List.forIn_cons]
    have hlen : (T l).length = l.length := T_length l
    have hlen2 : (T [32, 9]).length = 2 := T_length _
    by_cases hi' : i < l.length
    · by_cases hm : ((l.drop i).take 2 == [32, 9]) = true
      · -- a hit
        have hm' : (l.drop i).take 2 = [32, 9] := eq_of_beq hm
        have hi2 : i + 2 ≤ l.length := by
          have := congrArg List.length hm'
          rw [List.length_take, List.length_drop] at this
          simp at this
          omega
        have hd : l.drop i = 32 :: 9 :: l.drop (i + 2) := by
          have h1 : l.drop i = (l.drop i).take 2 ++ (l.drop i).drop 2 := (List.take_append_drop 2 _).symm
          rw [hm', List.drop_drop] at h1
          simpa using h1
        have e1 : occBody (T l) (T [32, 9]) (T l).length ((T l).length + 1) i (acc, free) = pure (ForInStep.yield (acc.push i, i + 2)) := by
          unfold occBody
          rw [if_pos ⟨⟨⟨by rw [hlen]; show acc.size < _; omega, hf⟩, by rw [hlen, hlen2]; omega⟩, by rw [subAt_bt]; exact hm⟩, hlen2]
        have e2 : occBody (T l) (T [32, 9]) (T l).length ((T l).length + 1) (i + 1) (acc.push i, i + 2) = pure (ForInStep.yield (acc.push i, i + 2)) := by
          unfold occBody
          rw [if_neg (by rintro ⟨⟨⟨-, h⟩, -⟩, -⟩; have h' : i + 2 ≤ i + 1 := h; omega)]
        rw [e1]
        show (forIn (List.range' (i + 1) (l.length - i)) (acc.push i, i + 2) (occBody (T l) (T [32, 9]) (T l).length ((T l).length + 1))).run.fst.toList = _
        rw [show l.length - i = (l.length - (i + 1)) + 1 by omega, List.range'_succ, List.forIn_cons, e2]
        show (forIn (List.range' (i + 1 + 1) (l.length - (i + 1))) (acc.push i, i + 2) (occBody (T l) (T [32, 9]) (T l).length ((T l).length + 1))).run.fst.toList = _
        have hr := ih (l.length - (i + 2)) (by omega) (i + 2) (acc.push i) (i + 2) rfl hi2 (Nat.le_refl _) (by rw [Array.size_push]; omega)
        rw [show l.length + 1 - (i + 2) = l.length - (i + 1) by omega] at hr
        rw [show i + 1 + 1 = i + 2 by omega]
        refine hr.trans ?_
        rw [hd, Array.toList_push, List.append_assoc]
        simp [occF]
      · have e1 : occBody (T l) (T [32, 9]) (T l).length ((T l).length + 1) i (acc, free) = pure (ForInStep.yield (acc, free)) := by
          unfold occBody
          rw [if_neg (by rintro ⟨-, h⟩; rw [subAt_bt] at h; exact hm h)]
        rw [e1]
        show (forIn (List.range' (i + 1) (l.length - i)) (acc, free) (occBody (T l) (T [32, 9]) (T l).length ((T l).length + 1))).run.fst.toList = _
        have hr := ih (l.length - (i + 1)) (by omega) (i + 1) acc free rfl hi' (by omega) (by omega)
        rw [show l.length + 1 - (i + 1) = l.length - i by omega] at hr
        refine hr.trans ?_
        congr 1
        have hd : l.drop i = l[i] :: l.drop (i + 1) := List.drop_eq_getElem_cons hi'
        rw [hd]
        cases hd2 : l.drop (i + 1) with
        | nil => simp [occF]
        | cons d r =>
          have hn : ¬ (l[i] = 32 ∧ d = 9) := by
            rintro ⟨h1, h2⟩
            apply hm
            rw [hd, hd2, h1, h2]; rfl
          simp only [occF]
          rw [if_neg hn]
    · have hil : i = l.length := by omega
      subst hil
      unfold occBody
      rw [if_neg (by rintro ⟨⟨-, h⟩, -⟩; rw [hlen, hlen2] at h; omega)]
      simp [occF]
theorem occ_bt (l : List Nat) : occurrences (T l) (T [32, 9]) 0 (T l).length ((T l).length + 1) = occF 0 l := by
  rw [occ_eq]
  have h := occ_run l _ 0 #[] 0 rfl (Nat.zero_le _) (Nat.le_refl _) (by simp)
  rw [Nat.sub_zero] at h
  rw [show (T l).length + 1 - 0 = l.length + 1 by rw [T_length]; omega]
  simpa using h
/-- the parts between, put together -/
noncomputable def gl (ps : List Str) : List Nat := (ps.map fun p => p.cps.toList).flatten
theorem glued_nil (ps : List Str) : glued (T []) ps = T (gl ps) := by
  cases ps with
  | nil => rfl
  | cons p r =>
    unfold glued gl
    rw [List.drop_one, List.tail_cons, List.headD_cons]
    have key : ∀ (r : List Str) (a : Array Nat), (r.foldl (fun acc q => acc ++ (T []).cps ++ q.cps) a) = (a.toList ++ (r.map fun p => p.cps.toList).flatten).toArray := by
      intro r
      induction r with
      | nil => intro a; simp
      | cons q r ih =>
        intro a
        rw [List.foldl_cons, ih]
        simp [T]
    rw [key]
    rfl
theorem strSub_T (l : List Nat) (a b : Nat) : (strSub (T l) a b).cps.toList = (l.take b).drop a := by
  unfold strSub T
  simp [List.drop_take]
theorem parts_run (l : List Nat) : ∀ (k i a : Nat), k = l.length - i → i ≤ l.length → a ≤ i → gl (partsFrom (T l) 2 a (occF i (l.drop i))) = (l.take i).drop a ++ remF (l.drop i) := by
  intro k
  induction k using Nat.strongRecOn with
  | ind k ih =>
    intro i a hk hi ha
    have last : ∀ d : List Nat, l.drop i = d → gl [strSub (T l) a (T l).length] = (l.take i).drop a ++ d := by
      rintro d rfl
      show ((strSub (T l) a (T l).length).cps.toList :: ([] : List (List Nat))).flatten = _
      rw [strSub_T, T_length, List.take_length]
      have : l.drop a = (l.take i ++ l.drop i).drop a := by rw [List.take_append_drop]
      rw [this, List.drop_append]
      simp [List.length_take]
      omega
    cases hd : l.drop i with
    | nil => simp only [occF, remF, partsFrom]; exact last _ hd
    | cons c r =>
      cases r with
      | nil => simp only [occF, remF, partsFrom]; exact last _ hd
      | cons d r =>
        have hl2 : i + 2 ≤ l.length := by
          have := congrArg List.length hd
          rw [List.length_drop] at this
          simp at this; omega
        have hd1 : l.drop (i + 1) = d :: r := by rw [← List.drop_drop, hd]; rfl
        have hd2 : l.drop (i + 2) = r := by rw [← List.drop_drop, hd]; rfl
        simp only [occF, remF]
        by_cases h : c = 32 ∧ d = 9
        · rw [if_pos h, if_pos h]
          show gl (strSub (T l) a i :: partsFrom (T l) 2 (i + 2) (occF (i + 2) r)) = _
          have hr := ih (l.length - (i + 2)) (by omega) (i + 2) (i + 2) rfl hl2 (Nat.le_refl _)
          rw [hd2] at hr
          show (strSub (T l) a i).cps.toList ++ gl (partsFrom (T l) 2 (i + 2) (occF (i + 2) r)) = _
          rw [hr, strSub_T]
          simp
        · rw [if_neg h, if_neg h]
          have hr := ih (l.length - (i + 1)) (by omega) (i + 1) a rfl (by omega) (by omega)
          rw [hd1] at hr
          rw [hr]
          have ht : l.take (i + 1) = l.take i ++ [c] := by
            rw [List.take_add_one]
            have : l[i]? = some c := by
              have := congrArg (fun x => x[0]?) hd
              simpa using this
            rw [this]; rfl
          rw [ht, List.drop_append]
          have : a - (l.take i).length = 0 := by rw [List.length_take]; omega
          rw [this]; simp
theorem repl_bt (l : List Nat) : Txt.replace (T l) (T [32, 9]) (T []) = T (remF l) := by
  unfold Txt.replace
  rw [occ_bt, partsBetween_eq, glued_nil]
  have hp : gl (partsFrom (T l) (T [32, 9]).length 0 (occF 0 l)) = remF l := by
    have h := parts_run l _ 0 0 rfl (Nat.zero_le _) (Nat.le_refl _)
    rw [show (T [32, 9]).length = 2 from T_length _]
    simpa using h
  rw [hp]
  split
  · rename_i h
    have h0 : (occF 0 l).isEmpty = true := by simpa [T_length] using h
    have h1 : occF 0 l = [] := List.isEmpty_iff.mp h0
    rw [h1] at hp
    have : remF l = l := by
      rw [← hp]
      show (strSub (T l) 0 (T l).length).cps.toList ++ [] = l
      rw [strSub_T, T_length]; simp
    rw [this]
  · rfl
noncomputable def cntF (c : Nat) (l : List Nat) : Nat := (l.filter (· == c)).length
theorem cnt_T (c : Nat) (l : List Nat) : Txt.count (T l) (T [c]) = (cntF c l : Nat) := by
  have h : Txt.count (T l) ⟨#[c]⟩ = PyProof.Rows.cnt c l := PyProof.Rows.count_cnt (T l) c
  refine Eq.trans h ?_
  unfold cntF
  induction l with
  | nil => rfl
  | cons d r ih =>
    rw [PyProof.Rows.cnt_cons, ih (PyProof.Rows.count_cnt (T r) c), List.filter_cons]
    by_cases e : d = c
    · subst e; simp; omega
    · simp [e]
section
variable {prog : Program} {w : World} {A : Around} {E : Value → Shared → Prop} {s s' : Shared} {env : Env} {h₀ : Heap} {L : Addr} {m : Str → Option Value} {M N : List (Addr × Obj)} {o : OsState} {d : Drawn}
theorem r_cntT {l : List Nat} {c : Nat} {t u : Tok} {Q : Value → Shared → Prop} (S : Sat h₀ L m M o d s) (k : ∀ t s', Sat h₀ L m M o d s' → Q (.int (cntF c l : Nat) t) s') :
    wpAny (model prog w) A (call (.builtin "str.count") [.str (T l) t, .str (T [c]) u]) Q E s := by
  refine SC.count ?_
  rw [cnt_T]
  exact k _ _ (S.tk _)
theorem foldl_rep (c : Nat) : ∀ (n : Nat) (a : Array Nat), (List.replicate n (#[c] : Array Nat)).foldl (· ++ ·) a = (a.toList ++ List.replicate n c).toArray
  | 0, a => by simp
  | n + 1, a => by
    rw [List.replicate_succ, List.foldl_cons, foldl_rep c n]
    simp [List.replicate_succ]
theorem mul_T (c n : Nat) : Txt.mul (T [c]) (n : Int) = T (List.replicate n c) := by
  unfold Txt.mul
  split
  · rename_i h
    have : n = 0 := by omega
    subst this; rfl
  · split
    · rename_i h
      have : n = 1 := by have h' : (n : Int) = 1 := (by simpa [T_length] using h); omega
      subst this; rfl
    · have h := foldl_rep c n #[]
      show Str.mk _ = Str.mk _
      congr 1
      try simpa [T] using h
theorem r_mulT {c n : Nat} {t u : Tok} {Q : Value → Shared → Prop} (S : Sat h₀ L m M o d s) (hn : n ≤ 1000) (k : ∀ t s', Sat h₀ L m M o d s' → Q (.str (T (List.replicate n c)) t) s') :
    wpAny (model prog w) A (binaryOp .Mult (.str (T [c]) t) (.int (n : Nat) u)) Q E s := by
  refine SB.mul ⟨by simp; omega, fun h1 _ => ?_, fun h1 _ => ?_⟩ fun t' k' => ?_
  · rw [T_length]
    have h2 : (1 : Int) ≤ (2 ^ 63 - 1) / (n : Int) := by
      rw [Int.le_ediv_iff_mul_le (by omega)]
      omega
    simp at h2 ⊢
    try omega
  · unfold tooLong
    rw [T_length, sizeLine_eq]
    exact decide_eq_false (by simp; omega)
  · rw [mul_T]
    exact k _ _ (S.tk _)
end

end
section
open PySem.Spec PySem.Calls
open PyProof.Rows.LCg (lst lst_snoc)
section
variable {prog : Program} {w : World} {A : Around} {E : Value → Shared → Prop} {s s' : Shared} {env : Env} {h₀ : Heap} {L : Addr} {m : Str → Option Value} {M N : List (Addr × Obj)} {o : OsState} {d : Drawn}

noncomputable abbrev cellO : Obj := { cls := .type "cell", data := .cell none }
inductive BlkOnK (prog : Program) (w : World) (A : Around) (elt target : Expr) (ifs : List Expr) (scope : Scope) (xk : Str) (cl : List (Str × Addr)) (env : Env) (Q : Value → Shared → Prop) (xv : Value) (s₁ : Shared) : Prop
  | mk (o : OsState) (d : Drawn) (n : Nat) (Pv : Nat → Value → Prop) (J : Addr → Nat → List Value → List (Addr × Obj) → Prop) (h1 : AllBare s₁.gens)
    (h2 : s₁.os = o)
    (h3 : s₁.drawn = d)
    (h4 : n ≤ 1000000)
    (h5 : Itb prog w A s₁.heap xv target n Pv)
    (h6 : (∀ c, J c 0 [] [(c, cellO)]))
    (h7 : (∀ c i ys news, J c i ys news → ys.length ≤ i))
    (h8 : (∀ c i v ys m₁ news I oI D C s₂, i < n → Pv i v → J c i ys news → Sat s₁.heap C m₁ ((I, oI) :: (D, lst ys) :: news) o d s₂ →
      wpAny (model prog w) A (assign target (compEnvC scope ((xk, c) :: cl) C env) v) (fun _ s₃ => wpAny (model prog w) A (testsOf ifs (compEnvC scope ((xk, c) :: cl) C env)) (fun ok s₄ =>
        if ok = true then wpAny (model prog w) A (eval elt (compEnvC scope ((xk, c) :: cl) C env)) (fun y s₅ => BlkEnd s₁.heap C o d I oI D ys (J c (i + 1) (ys ++ [y])) s₅) F0 s₄ else BlkEnd s₁.heap C o d I oI D ys (J c (i + 1) ys) s₄) F0 s₃) F0 s₂))
    (h9 : (∀ c D ys news s', J c n ys news → Grow s₁ s' ((D, lst ys) :: news) → Q (.ref D) s')) : BlkOnK prog w A elt target ifs scope xk cl env Q xv s₁

theorem r_compK {elt target iter : Expr} {ifs : List Expr} {scope : Scope} {cl : List (Str × Addr)} {xk : Str} {pos : Pos} {Q : Value → Shared → Prop}
    (hclos : closureFor scope env = pure cl) (hcf : ∀ n, cellsFrom n scope.names cl = (xk, n) :: cl) (hpc : ∀ h, pushCells h scope.names = h.push cellO) (hkind : scope.kind = .function) (hnames : ∀ y ∈ scope.names, y.2 = .local → scope.names.lookup y.1 = some .local)
    (h : wpAny (model prog w) A (eval iter env) (BlkOnK prog w A elt target ifs scope xk cl env Q) E s)
    (hs : ∀ x, foldedSetIterable iter env x = pure x := by intro _; rfl) :
    wpAny (model prog w) A (eval (.ListComp elt [⟨target, iter, ifs, 0⟩] scope pos) env) Q E s := by
  rw [eval_ListComp]
  refine wpAny_comprehension_free (use := none) rfl hs hclos hkind hnames (wpAny_mono h (fun xv s₁ h₁ => ?_) fun _ _ e => e)
  obtain ⟨o, d, n, Pv, J, hgb, rfl, rfl, hn, hit, hj, hlen, turn, done⟩ := h₁
  refine hit s₁ _ _ (fun _ _ e => e) fun ob fp St W hfree hfp hlive hgo st0 => ?_
  generalize hI : s₁.heap.objs.size = I at *
  generalize hH1 : s₁.heap.push ob = H1 at *
  have hH1s : H1.objs.size = I + 1 := by rw [← hH1, Heap.size_push, hI]
  refine wpAny_newObj_type ?_
  dsimp only
  generalize hH2 : H1.push { cls := .type "list", dict := none, data := .seq ([] : List Value).toArray } = H2
  have hC : H2.objs.size = I + 2 := by rw [← hH2, Heap.size_push, hH1s]
  simp only [newFunctionEnv, Option.isSome_some, if_true]
  refine wpAny_bind (wpAny_alloc ?_)
  refine wpAny_bind (wpAny_layCells _ (fun name kind cells => by cases hkc : kind == NameKind.cell <;> simp [hkc]) _ _ _ _ ?_)
  rw [hcf, hpc]
  refine wpAny_bind (wpAny_pure (wpAny_pure ?_))
  generalize hh₁ : (H2.push { cls := .type "dict", data := .dict #[] }).push cellO = h₁
  rw [show ({ s₁ with heap := H2.push { cls := .type "dict", data := .dict #[] } } : Shared).heap.objs.size = I + 3 by show (H2.push _).objs.size = _; rw [Heap.size_push, hC]]
  have hns₁ : h₁.Ns H2.objs.size (fun _ => none) := hh₁ ▸ (Heap.Ns.new H2 (.type "dict")).keeps fun b o e => Heap.get?_push_of_some _ e
  generalize hCg : H2.objs.size = C at *
  rw [hH1s]
  have hcell : h₁.get? (I + 3) = some cellO := by
    rw [← hh₁, show I + 3 = (H2.push { cls := .type "dict", data := .dict #[] }).objs.size by rw [Heap.size_push, hCg, hC]]
    exact Heap.get?_push_size _ rfl
  have below : ∀ b : Nat, b < I + 2 → b ≠ C := fun b hb e => by rw [e, hC] at hb; omega
  have hsI : s₁.heap.objs.size < I + 2 := by rw [hI]; omega
  have hsH : H1.objs.size < I + 2 := by rw [hH1s]; omega
  have old2 : ∀ b o, H1.get? b = some o → h₁.get? b = some o := fun b o e => hh₁ ▸ Heap.get?_push_of_some _ (Heap.get?_push_of_some _ (hH2 ▸ Heap.get?_push_of_some _ e))
  have old1 : ∀ b o, s₁.heap.get? b = some o → H1.get? b = some o := fun b o e => hH1 ▸ Heap.get?_push_of_some _ e
  have old : ∀ b o, s₁.heap.get? b = some o → h₁.get? b = some o := fun b o e => old2 b o (old1 b o e)
  have hacc : h₁.get? (I + 1) = some (lst []) := hh₁ ▸ Heap.get?_push_of_some _ (Heap.get?_push_of_some _ (by rw [← hH2, ← hH1s]; exact Heap.get?_push_size _ rfl))
  have fresh : ∀ a, I ≤ a → s₁.heap.get? a = none := fun a ha => by
    cases e : s₁.heap.get? a with
    | none => rfl
    | some o' => have : (a : Nat) < s₁.heap.objs.size := Heap.lt_size e; have ha' : (I : Nat) ≤ a := ha; omega
  have hCn : C = I + 2 := hC
  have start : Sat s₁.heap C _ [(I + 1, lst []), (I + 3, cellO)] s₁.os s₁.drawn { s₁ with heap := h₁ } :=
    ⟨⟨hns₁, old, by omega⟩, fun p hp => by
      rcases List.mem_cons.mp hp with rfl | hp
      · exact ⟨hacc, (by omega : I + 1 ≠ C), fresh _ (by omega)⟩
      · rw [List.mem_singleton.mp hp]
        exact ⟨hcell, (by omega : I + 3 ≠ C), fresh _ (by omega)⟩, by simp, hgb, rfl, rfl⟩
  have hIlive : h₁.get? I = some ob := old2 _ _ (by rw [← hH1, ← hI]; exact Heap.get?_push_size _ hfree)
  have loop : ∀ s₃ : Shared, s₃ = { s₁ with heap := h₁, toks := s₁.toks } →
      codeAny (model prog w) A (.compLoop (.ListComp elt [⟨target, iter, ifs, 0⟩] scope pos) 0 (.ref I) (.ref (I + 1)) (compEnvC scope ((xk, I + 3) :: cl) C env))
        (compPost (model prog w) A E none Q (.ref (I + 1)) C) s₃ := by
    rintro s₃ rfl
    refine codeAny_loop rfl
      (fun k s' => ∃ i ys m' news, i ≤ n ∧ k = n + 1 - i ∧ St i s'.heap ∧ Sat s₁.heap C m' ((I + 1, lst ys) :: news) s₁.os s₁.drawn s' ∧ (∀ p ∈ news, p.1 ≠ I) ∧ J (I + 3) i ys news) ?_ (n + 1)
      ⟨0, [], _, [(I + 3, cellO)], Nat.zero_le _, rfl, W.frame _ _ _ st0 fun b hb ob e => old2 b ob e, start, fun p hp => by rw [List.mem_singleton.mp hp]; exact (by omega : I + 3 ≠ I), hj _⟩
    rintro k s' ⟨i, ys, m', news, hi, rfl, hst', S', hoff', hJ⟩
    show wpAny _ A ((compTurn (.ListComp elt [⟨target, iter, ifs, 0⟩] scope pos) 0 (.ref I) (.ref (I + 1)) (compEnvC scope ((xk, I + 3) :: cl) C env)).onRaise (fun x => do noteFrame x (compEnvC scope ((xk, I + 3) :: cl) C env); theTreesLotGoes x)) _ _ s'
    refine wpAny_noted ?_
    rw [compTurn_list]
    refine wpAny_bind (wpAny_standAt (wpAny_bind ?_))
    have keepS : ∀ (h' : Heap) (tk : Nat), (∀ b o, b ∉ [I] → s'.heap.get? b = some o → h'.get? b = some o) → Sat s₁.heap C m' ((I + 1, lst ys) :: news) s₁.os s₁.drawn { s' with heap := h', toks := tk } := fun h' tk hk =>
      ⟨⟨S'.fr.ns.at' fun o e => hk _ o (fun h => by have := List.mem_singleton.mp h; omega) e, fun b o e => hk b o (fun h => by rw [List.mem_singleton.mp h, fresh I (Nat.le_refl _)] at e; cases e) (S'.fr.keep b o e), S'.fr.above⟩,
        fun p hp => ⟨hk _ _ (fun h => by
          rcases List.mem_cons.mp hp with rfl | hp
          · have h' : I + 1 = I := List.mem_singleton.mp h
            omega
          · exact hoff' p hp (List.mem_singleton.mp h)) (S'.nw p hp).1, (S'.nw p hp).2⟩, S'.nd, S'.gb, S'.os, S'.dr⟩
    by_cases hlt : i < n
    · refine W.item i s' _ _ hlt hst' fun v h' tk hP hst₁ hk => ?_
      have S₁ := keepS h' tk hk
      obtain ⟨oI, hoI⟩ := hlive _ _ hst₁
      have S₁' : Sat s₁.heap C m' ((I, oI) :: (I + 1, lst ys) :: news) s₁.os s₁.drawn { s' with heap := h', toks := tk } :=
        ⟨S₁.fr, fun p hp => (List.mem_cons.mp hp).elim (fun e => by subst e; exact ⟨hoI, (by omega : I ≠ C), fresh _ (Nat.le_refl _)⟩) (S₁.nw p), by
          rw [List.map_cons, List.nodup_cons]
          refine ⟨fun h => ?_, S₁.nd⟩
          obtain ⟨p, hp, e⟩ := List.mem_map.mp h
          rcases List.mem_cons.mp hp with rfl | hp
          · have e' : I + 1 = I := e
            omega
          · exact hoff' p hp e, S₁.gb, S₁.os, S₁.dr⟩
      refine wpAny_bind (hgo _ _ _ _ _ hst₁ (wpAny_bind ?_))
      -- the turn's end
      have fin : ∀ (s₆ : Shared) (ys' : List Value) (M₁ : List (Addr × Obj)) (m₂ : Str → Option Value), Sat s₁.heap C m₂ ((I, oI) :: (I + 1, lst ys') :: M₁) s₁.os s₁.drawn s₆ → J (I + 3) (i + 1) ys' M₁ →
          ∃ k', k' < n + 1 - i ∧ ∃ i' ys m' news, i' ≤ n ∧ k' = n + 1 - i' ∧ St i' s₆.heap ∧ Sat s₁.heap C m' ((I + 1, lst ys) :: news) s₁.os s₁.drawn s₆ ∧ (∀ p ∈ news, p.1 ≠ I) ∧ J (I + 3) i' ys news := by
        intro s₆ ys' M₁ m₂ S₆ hJ₆
        have S₆d : Sat s₁.heap C m₂ ((I + 1, lst ys') :: M₁) s₁.os s₁.drawn s₆ := S₆.sub (fun p hp => .tail _ hp) (List.nodup_cons.mp (by have h := S₆.nd; rwa [List.map_cons] at h)).2
        refine ⟨n + 1 - (i + 1), by omega, i + 1, ys', m₂, M₁, hlt, rfl, ?_, S₆d, fun p hp => ?_, hJ₆⟩
        · refine W.frame _ _ _ hst₁ fun b hb ob e => ?_
          rcases hfp _ hb with h | ⟨ob', h⟩
          · rw [h] at e ⊢
            rw [show ob = oI from Option.some.inj (e.symm.trans hoI)]
            exact (S₆.nw (I, oI) (.head _)).1
          · rw [show ob = ob' from Option.some.inj (e.symm.trans (S₁'.fr.keep _ _ h))]
            exact S₆.fr.keep _ _ h
        · exact S₆.off (pre := []) p (.tail _ hp)
      refine wpAny_mono (turn (I + 3) i v ys m' news I oI (I + 1) C _ hlt hP hJ S₁') (fun _ s₃ h₃ => wpAny_bind (wpAny_mono h₃ (fun ok s₄ h₄ => ?_) fun _ _ f => f.elim)) fun _ _ f => f.elim
      cases ok with
      | false =>
        rw [if_neg Bool.false_ne_true] at h₄
        obtain ⟨m₂, pre, news₂, S₅, hJ₅⟩ := h₄
        have S₅' : Sat s₁.heap C m₂ ((I, oI) :: (I + 1, lst ys) :: (pre ++ news₂)) s₁.os s₁.drawn s₄ := S₅.perm (by
          refine List.Perm.symm ?_
          exact (List.perm_middle).trans ((List.perm_middle).cons _))
        exact wpAny_pure ⟨rfl, fin _ _ _ _ S₅' hJ₅⟩
      | true =>
        rw [if_pos rfl] at h₄
        refine wpAny_bind (wpAny_bind (wpAny_mono h₄ (fun y s₅ h₅ => wpAny_bind ?_) fun _ _ f => f.elim))
        obtain ⟨m₂, pre, news₂, S₅, hJ₅⟩ := h₅
        have S₅' : Sat s₁.heap C m₂ ((I + 1, lst ys) :: (I, oI) :: (pre ++ news₂)) s₁.os s₁.drawn s₅ := S₅.perm (by
          refine List.Perm.symm ?_
          exact (List.perm_middle).trans (((List.perm_middle).cons _).trans (List.Perm.swap ..)))
        have hyl : ys.length ≤ i := hlen _ _ _ _ hJ
        refine app_at S₅' (.head _) (by omega) fun s₆ S₆ => ?_
        rw [chg_cons, chg_skip _ _ _ _ (show I ≠ I + 1 by omega)] at S₆
        have hch : chg (pre ++ news₂) (I + 1) (lst (ys ++ [y])) = pre ++ news₂ := by
          unfold chg
          conv => rhs; rw [← List.map_id (pre ++ news₂)]
          refine List.map_congr_left fun p hp => ?_
          have := S₅'.off (pre := []) p (.tail _ hp)
          simp [this]
        rw [hch] at S₆
        exact wpAny_pure (wpAny_pure ⟨rfl, fin _ _ _ _ (S₆.perm (List.Perm.swap ..)) hJ₅⟩)
    · have hin : i = n := by omega
      subst hin
      refine W.done s' _ _ hst' fun h' tk hk => ?_
      have S₁ := keepS h' tk hk
      refine wpAny_pure ⟨m', S₁.fr.ns, fun h'' hs'' => ?_⟩
      refine done _ _ _ _ _ hJ ⟨fun b o e => (hs''.2 _ (below b (Nat.lt_trans (Heap.lt_size e) hsI))).trans (S₁.fr.keep b o e), fun p hp => ⟨(hs''.2 _ (S₁.nw p hp).2.1).trans (S₁.nw p hp).1, (S₁.nw p hp).2.2⟩, S₁.nd, S₁.gb, S₁.os, S₁.dr⟩
  refine codeAny_compStart_list (loop _ rfl) (W.self 0 _ _ _ ?_ (loop _ rfl))
  exact W.frame _ _ _ st0 fun b hb ob e => old2 b ob e
end

end
section
open PySem.Spec PySem.Calls
noncomputable def fdOf : Option Obj → Option FuncData
  | some ⟨_, _, .func fd, _⟩ => some fd
  | _ => none
noncomputable def stmtsOf : Option FuncData → List Stmt
  | some fd => match fd.body with | .stmts b => b | _ => []
  | none => []
noncomputable def lawB (w : World) : List Stmt := stmtsOf (fdOf ((hd.heap_1 w.params).lookup 221))
noncomputable def lawS (w : World) (i : Nat) : Stmt := (lawB w).getD i (.Pass ⟨0, 0, 0, 0⟩)
noncomputable def envOf (L : Addr) : Option FuncData → Env
  | some fd => newEnv fd.scope L fd.globals (cellsFrom (L + 1) fd.scope.names []) (fd.qualname ++ ".<locals>.") (some 221) fd.code none fd.builtins
  | none => newEnv ⟨.module, [], false, false, []⟩ L 0 [] "" none .none none 0
noncomputable def lawE (w : World) (L : Addr) : Env := envOf L (fdOf ((hd.heap_1 w.params).lookup 221))
theorem law_len (w : World) : (lawB w).length = 20 := by kernel_rfl

end
section
open PySem.Spec PySem.Calls
noncomputable def sumGo : Nat → List Int → Int
  | _, [] => 0
  | k, x :: r => ((k : Int) + 1) * (x % 1000000) + sumGo (k + 1) r
theorem sumGo_nonneg : ∀ (k : Nat) (l : List Int), 0 ≤ sumGo k l
  | _, [] => Int.le_refl 0
  | k, x :: r => Int.add_nonneg (Int.mul_nonneg (by omega) (Int.emod_nonneg _ (by decide))) (sumGo_nonneg (k + 1) r)
theorem chg_mid {h₀ : Heap} {L : Addr} {m : Str → Option Value} {o : OsState} {d : Drawn} {s : Shared} {pre post : List (Addr × Obj)} {a : Addr} {ob ob' : Obj} (S : Sat h₀ L m (pre ++ (a, ob) :: post) o d s) : chg (pre ++ (a, ob) :: post) a ob' = pre ++ (a, ob') :: post := by
  rw [chg_app, chg_cons, chg_none fun q hq => S.off q (List.mem_append.mpr (.inl hq)), chg_none fun q hq => S.off q (List.mem_append.mpr (.inr hq))]
theorem bits12 : ∀ i : Nat, i < 12 → Builtin.Int.intBits ((i : Int) + 1) ≤ 64 := by decide
/-- the law's cells and the table -/
noncomputable abbrev C4 (L : Addr) (c1 c2 c3 : Obj) (ps : Array Value) : List (Addr × Obj) := [(L + 1, c1), (L + 1 + 1, c2), (L + 1 + 1 + 1, c3), (63, tabObj ps)]
set_option maxHeartbeats 4000000 in
theorem law_1 {w : World} {A : Around} {s : Shared} {h₀ : Heap} {L : Addr} {m : Str → Option Value} {M : List (Addr × Obj)} {o : OsState} {d : Drawn} {mean : ExcName → Option Value} {mg mb : Str → Option Value} {c1 c2 c3 : Obj} {ps : Array Value} {v1 : Option Value} (R : Room A 12) (S : Sat h₀ L m (C4 L c1 c2 c3 ps) o d s) (G : Gl w mean mg mb h₀) (h1 : c1.data = .cell v1) :
    wpAny (model PySem.Challenge.rw_xo0031_01.row.prog w) A (exec (lawS w 0) (lawE w L)) (fun f s' => f = .next ∧ ∃ c1' t, Sat h₀ L m (C4 L c1' c2 c3 ps) o d s' ∧ c1'.data = .cell (some (.int 1645 t))) F0 s := by
  have h221 : (hd.heap_1 w.params).lookup 221 = some _ := rfl
  unfold lawS lawB lawE
  rw [h221]
  dsimp only [fdOf, stmtsOf, envOf, newEnv]
  simp only [List.getD_cons_zero, List.getD_cons_succ]
  clear h221
  (repeat (tb_start; (try dsimp only)))
  rename_i t1 s1 S1
  refine chg_cellM S1 (.head _) h1 rfl (by with_unfolding_all rfl) (by with_unfolding_all rfl) fun c1' s2 h1' S2 => ?_
  rw [chg_cons, chg_none (fun q hq => S1.off1 hq)] at S2
  exact ⟨rfl, c1', t1, S2, h1'⟩

end
local macro_rules | `(tactic| tb_start) => `(tactic| first
  | with_reducible refine r_slcUp ?_ (by intro _ _; with_unfolding_all rfl)
  | with_reducible refine r_slcFrom ?_ (by intro _ _; with_unfolding_all rfl)
  | with_reducible refine wpAny_IfExp ?_
  | (with_reducible refine r_powI (by assumption) (by omega) (by omega) (by decide) ?_; intro _ _ _)
  | (with_reducible refine r_fdivI (by assumption) (by decide) (by decide) ?_; intro _ _ _)
  | (with_reducible refine r_modI (by assumption) (by decide) ?_; intro _ _ _))

section
open PySem.Spec PySem.Calls
theorem sumGo_take {ns : List Int} {i : Nat} {x : Int} (h : ns[i]? = some x) : ∀ k, sumGo k (ns.take (i + 1)) = sumGo k (ns.take i) + ((k + i : Nat) + 1 : Int) * (x % 1000000) := by
  induction ns generalizing i with
  | nil => simp at h
  | cons y r ih =>
    intro k
    cases i with
    | zero =>
      have : y = x := by simpa using h
      subst this
      simp [sumGo]
    | succ i =>
      have h' : r[i]? = some x := by simpa using h
      rw [List.take_succ_cons, List.take_succ_cons, sumGo, sumGo, ih h' (k + 1)]
      rw [show k + 1 + i = k + (i + 1) by omega]
      omega
set_option maxHeartbeats 4000000 in
theorem law_2 {w : World} {A : Around} {s : Shared} {h₀ : Heap} {L : Addr} {m : Str → Option Value} {M : List (Addr × Obj)} {o : OsState} {d : Drawn} {mean : ExcName → Option Value} {mg mb : Str → Option Value} {c1 c2 c3 : Obj} {ps : Array Value} {t0 : Tok} {sc : Addr} {vs : List Value} {ns : List Int} (R : Room A 12) (S : Sat h₀ L m (C4 L c1 c2 c3 ps) o d s) (G : Gl w mean mg mb h₀) (h1 : c1.data = .cell (some (.int 1645 t0)))
    (hm : m (Str.ofString "script") = some (.ref sc)) (hsc : h₀.IsList sc vs.toArray) (hi : IntsAre vs ns) (hz : vs.length ≤ 63) :
    wpAny (model PySem.Challenge.rw_xo0031_01.row.prog w) A (exec (lawS w 1) (lawE w L)) (fun f s' => f = .next ∧ ∃ m' c1' t, Sat h₀ L m' (C4 L c1' c2 c3 ps) o d s' ∧ c1'.data = .cell (some (.int (1645 + sumGo 0 (ns.take 12)) t))) F0 s := by
  have hh := R.hh
  have h221 : (hd.heap_1 w.params).lookup 221 = some _ := rfl
  unfold lawS lawB lawE
  rw [h221]
  dsimp only [fdOf, stmtsOf, envOf, newEnv]
  simp only [List.getD_cons_zero, List.getD_cons_succ]
  clear h221
  refine r_forG ?_ (by intro _; with_unfolding_all rfl)
  (repeat (tb_start; (try dsimp only)))
  rename_i t1 s1 S1
  refine ⟨h₀, L, m, _, o, d, sc, vs, ns, 12, t1, S1, rfl, rfl, by decide, hsc.at fun ob e => S1.fr.keep _ _ e, hi, by omega, fun D us s2 S2 hus => ?_⟩
  (repeat (tb_start; (try dsimp only)))
  refine r_enumFor hh S2 (.head _) (by with_unfolding_all rfl) (by with_unfolding_all rfl) (by with_unfolding_all rfl)
    (fun i m M => ∃ c1' t c, M = (D, lsN us 0) :: C4 L c1' c2 c3 ps ∧ c1'.data = .cell (some (.int c t)) ∧ c = 1645 + sumGo 0 ((ns.take 12).take i)) ⟨c1, t0, _, rfl, h1, by simp [sumGo]⟩ (fun i m M hJ => by obtain ⟨c1', t, c, rfl, -⟩ := hJ; exact .head _) ?_ ?_
  · rintro i v tk m₁ M₁ e oe it oit s3 hv ⟨c1', t, c, rfl, hc1, hc⟩ S3
    obtain ⟨x, tx, rfl, hx⟩ := ints_at hus hv
    have hx' : (ns.take 12)[i]? = some x := hx
    have hi12 : i < 12 := by
      rcases Nat.lt_or_ge i (ns.take 12).length with h | h
      · rw [List.length_take] at h; omega
      · rw [List.getElem?_eq_none h] at hx'; cases hx'
    (repeat (tb_start; (try dsimp only)))
    refine wpAny_loadName_cell rfl (by with_unfolding_all rfl) (by with_unfolding_all rfl) ⟨c1', S3.at (.tail _ (.tail _ (.tail _ (.head _)))), hc1⟩ ?_
    (repeat (tb_start; (try dsimp only)))
    rename_i t9 s9 S9
    have hb : 0 ≤ x % (10 : Int) ^ (6 : Int).toNat ∧ x % (10 : Int) ^ (6 : Int).toNat < 1000000 := ⟨Int.emod_nonneg _ (by decide), Int.emod_lt_of_pos _ (by decide)⟩
    refine r_mul S9 (.of_left (bits12 i hi12)) ?_
    intro t10 s10 S10
    (repeat (tb_start; (try dsimp only)))
    rename_i t11 s11 S11
    have hm1 : (L + 1, c1') ∈ (e, oe) :: (it, oit) :: (D, lsN us 0) :: C4 L c1' c2 c3 ps := .tail _ (.tail _ (.tail _ (.head _)))
    refine chg_cellM S11 hm1 hc1 rfl (by with_unfolding_all rfl) (by with_unfolding_all rfl) fun c1'' s12 h1'' S12 => ?_
    have hcm := chg_mid (pre := [(e, oe), (it, oit), (D, lsN us 0)]) (ob' := c1'') S11
    dsimp only [List.cons_append, List.nil_append] at hcm
    rw [hcm] at S12
    refine wpAny_execs_nil ⟨rfl, _, _, S12, c1'', t11, _, rfl, h1'', ?_⟩
    rw [sumGo_take hx' 0, hc, Nat.zero_add]
    have e6 : (10 : Int) ^ (6 : Int).toNat = 1000000 := by decide
    rw [e6]
    omega
  · rintro m₁ M₁ s3 ⟨c1', t, c, rfl, hc1, hc⟩ S3
    have hl : us.length = (ns.take 12).length := ints_len hus
    rw [hl, List.take_length] at hc
    exact ⟨rfl, m₁, c1', t, S3.sub (fun q hq => .tail _ hq) (by have := S3.nd; rw [List.map_cons, List.nodup_cons] at this; exact this.2), by rw [hc1, hc]⟩

end
section
open PySem.Spec PySem.Calls
/-- the boxes drawn -/
noncomputable def bitF (n k : Nat) : Nat := if n / 2 ^ k % 2 = 1 then 111 else 32
noncomputable def rowBits (n : Nat) : List Nat := (List.range 6).map (bitF n)
noncomputable def begF (n : Nat) : List Nat := stripF (111 :: rowBits n) 6
theorem pow_cast (i : Nat) : (2 : Int) ^ (((0 : Int) + (i : Nat) * 1)).toNat = ((2 ^ i : Nat) : Int) := by
  rw [show ((0 : Int) + (i : Nat) * 1) = (i : Int) by omega, Int.toNat_natCast]
  simp
set_option maxHeartbeats 4000000 in
theorem law_3 {w : World} {A : Around} {s : Shared} {h₀ : Heap} {L : Addr} {m : Str → Option Value} {M : List (Addr × Obj)} {o : OsState} {d : Drawn} {mean : ExcName → Option Value} {mg mb : Str → Option Value} {c1 c2 c3 : Obj} {ps : Array Value} {t0 : Tok} {n : Nat} (R : Room A 12) (S : Sat h₀ L m (C4 L c1 c2 c3 ps) o d s) (G : Gl w mean mg mb h₀) (h1 : c1.data = .cell (some (.int (n : Nat) t0))) :
    wpAny (model PySem.Challenge.rw_xo0031_01.row.prog w) A (exec (lawS w 2) (lawE w L)) (fun f s' => f = .next ∧ ∃ m' tb, Sat h₀ L m' (C4 L c1 c2 c3 ps) o d s' ∧ m' (Str.ofString "begin") = some (.str (T (begF n)) tb)) F0 s := by
  have hh := R.hh
  have h221 : (hd.heap_1 w.params).lookup 221 = some _ := rfl
  unfold lawS lawB lawE
  rw [h221]
  dsimp only [fdOf, stmtsOf, envOf, newEnv]
  simp only [List.getD_cons_zero, List.getD_cons_succ]
  clear h221
  (repeat (tb_start; (try dsimp only)))
  with_reducible refine r_smeth PySem.F.slot_str_join PySem.F.type_str_join ?_ (by with_unfolding_all rfl) (by with_unfolding_all rfl) (by with_unfolding_all rfl) (by with_unfolding_all rfl) (by with_unfolding_all rfl)
  (repeat (tb_start; (try dsimp only)))
  refine ⟨_, _, rfl, ?_⟩
  (repeat (tb_start; (try dsimp only)))
  refine r_comp (cl := [(Str.ofString "code", L + 1)]) (by with_unfolding_all rfl) (by decide) rfl (by decide) ?_
  (repeat (tb_start; (try dsimp only)))
  rename_i r t1 t2 t3 s3 S3
  have c2' : s3.heap.IsCell (L + 1) (some (.int (n : Nat) t0)) := ⟨c1, S3.at (.tail _ (.head _)), h1⟩
  have G3 := G.at S3
  refine ⟨o, d, 6, _, (fun i ys news => news = [] ∧ Sgs ys ((rowBits n).take i)), S3.gb, S3.os, S3.dr, by omega, itb_range hh (S3.at (.head _)) (by decide) (by decide), ⟨rfl, by simpa using Sgs.nil⟩, ?_, ?_, ?_⟩
  · rintro i ys news ⟨-, h⟩
    have := h.len
    rw [List.length_take] at this
    omega
  · rintro i v ys m₁ news I oI D C sa hi ⟨tv, rfl⟩ ⟨rfl, hI⟩ Sa
    refine r_asgN Sa ?_ (by with_unfolding_all rfl) (by with_unfolding_all rfl)
    intro sb Sb
    (repeat (tb_start; (try dsimp only)))
    refine r_kT lit_bo (by assumption) ?_
    intro t4 s4 S4
    (repeat (tb_start; (try dsimp only)))
    rename_i t5 s5 S5
    rw [pow_cast]
    have hp : 0 < 2 ^ i ∧ 2 ^ i < 1000000 := by
      have : ∀ i : Nat, i < 6 → 0 < 2 ^ i ∧ 2 ^ i < 1000000 := by decide
      exact this i hi
    refine r_fdivI S5 (by omega) (by omega) ?_
    intro t6 s6 S6
    (repeat (tb_start; (try dsimp only)))
    rename_i t7 s7 S7
    have e7 : (n : Int) / ((2 ^ i : Nat) : Int) % 2 = ((n / 2 ^ i % 2 : Nat) : Int) := by omega
    refine r_itemT S7 e7 (show n / 2 ^ i % 2 < [32, 111].length from Nat.mod_lt _ (by decide)) (by decide) ?_ (by with_unfolding_all rfl) (by intro _; with_unfolding_all rfl)
    intro t8 s8 S8
    refine ⟨_, [], _, S8, rfl, ?_⟩
    have hb : (rowBits n)[i]? = some ([32, 111][n / 2 ^ i % 2]'(Nat.mod_lt _ (by decide))) := by
      unfold rowBits
      rw [List.getElem?_map, List.getElem?_range hi]
      show some (bitF n i) = _
      unfold bitF
      rcases Nat.mod_two_eq_zero_or_one (n / 2 ^ i) with h | h <;> simp [h]
    rw [take_step hb]
    exact hI.snoc _ _
  · rintro D ys news s' ⟨rfl, hI⟩ G'
    have hlen : (rowBits n).length = 6 := by simp [rowBits]
    rw [← hlen, List.take_length] at hI
    have S5 := S3.grow G'
    (repeat (tb_start; (try dsimp only)))
    refine r_joinT S5 ⟨_, S5.at (.head _), rfl, _, rfl⟩ hI (by omega) ?_
    intro tz sz Sz
    (repeat (tb_start; (try dsimp only)))
    refine r_addT Sz (by rw [hlen]; decide) ?_
    intro ty sy Sy
    (repeat (tb_start; (try dsimp only)))
    rename_i tw sw Sw
    refine ⟨⟨_, _, _, _, _, Sw⟩, ?_⟩
    refine strip_ok w (111 :: rowBits n) _ 6 _ (by simp [hlen]) (by simp [hlen]) A sw mean mg mb _ _ hh (by have := R.dep; omega) (by have := R.uni; omega) (G.at Sw) Sw.gb ?_
    rintro v sv ⟨tv, rfl⟩ X
    have Sv := Sw.ext X
    (repeat (tb_start; (try dsimp only)))
    rename_i su Su
    refine ⟨rfl, _, tv, Su.sub (fun q hq => ?_) S.nd, by tb_rel⟩
    exact List.mem_append.mpr (.inr (.tail _ hq))

end
section
open PySem.Spec PySem.Calls
noncomputable def roomA (n : Nat) : Nat := 1 + n / 64 % 4
noncomputable def roomB (n : Nat) : Nat := 1 + n / 256 % 4
noncomputable def kindF (n : Nat) : Nat := n / 1024 % 3
set_option maxHeartbeats 4000000 in
theorem law_4 {w : World} {A : Around} {s : Shared} {h₀ : Heap} {L : Addr} {m : Str → Option Value} {M : List (Addr × Obj)} {o : OsState} {d : Drawn} {mean : ExcName → Option Value} {mg mb : Str → Option Value} {c1 c2 c3 : Obj} {ps : Array Value} {t0 : Tok} {n : Nat} {X : List (Addr × Obj)} (S : Sat h₀ L m (C4 L c1 c2 c3 ps) o d s) (h1 : c1.data = .cell (some (.int (n : Nat) t0))) :
    wpAny (model PySem.Challenge.rw_xo0031_01.row.prog w) A (exec (lawS w 3) (lawE w L)) (fun f s' => f = .next ∧ ∃ D ta tb, Sat h₀ L (fun y => if y = Str.ofString "drawn" then some (.ref D) else m y) ((D, lsN [.int (roomA n : Nat) ta, .int (roomB n : Nat) tb] 0) :: C4 L c1 c2 c3 ps) o d s') F0 s := by
  have h221 : (hd.heap_1 w.params).lookup 221 = some _ := rfl
  unfold lawS lawB lawE
  rw [h221]
  dsimp only [fdOf, stmtsOf, envOf, newEnv]
  simp only [List.getD_cons_zero, List.getD_cons_succ]
  clear h221
  (repeat (tb_start; (try dsimp only)))
  refine r_lstE ?_
  (repeat (tb_start; (try dsimp only)))
  refine r_celM (by with_unfolding_all rfl) (by assumption) (.head _) h1 ?_ (by with_unfolding_all rfl) rfl (by decide)
  (repeat (tb_start; (try dsimp only)))
  refine r_celM (by with_unfolding_all rfl) (by assumption) (.head _) h1 ?_ (by with_unfolding_all rfl) rfl (by decide)
  (repeat (tb_start; (try dsimp only)))
  rename_i ta _ _ _ _ _ _ _ _ _ _ _ tb s3 S3
  refine ⟨by simp, _, _, _, _, _, _, S3, ?_⟩
  intro D s4 G4
  have S4 := S3.grow G4
  (repeat (tb_start; (try dsimp only)))
  rename_i s5 S5
  have ea : (1 : Int) + (n : Int) / 64 % 4 = (roomA n : Nat) := by unfold roomA; omega
  have eb : (1 : Int) + (n : Int) / 256 % 4 = (roomB n : Nat) := by unfold roomB; omega
  rw [ea, eb] at S5
  exact ⟨rfl, D, _, _, S5⟩
set_option maxHeartbeats 4000000 in
theorem law_5 {w : World} {A : Around} {s : Shared} {h₀ : Heap} {L : Addr} {m : Str → Option Value} {M : List (Addr × Obj)} {o : OsState} {d : Drawn} {mean : ExcName → Option Value} {mg mb : Str → Option Value} {c1 c2 c3 : Obj} {ps : Array Value} {t0 : Tok} {n : Nat} {X : List (Addr × Obj)} (S : Sat h₀ L m (X ++ C4 L c1 c2 c3 ps) o d s) (h1 : c1.data = .cell (some (.int (n : Nat) t0))) :
    wpAny (model PySem.Challenge.rw_xo0031_01.row.prog w) A (exec (lawS w 4) (lawE w L)) (fun f s' => f = .next ∧ ∃ t, Sat h₀ L (fun y => if y = Str.ofString "kind" then some (.int (kindF n : Nat) t) else m y) (X ++ C4 L c1 c2 c3 ps) o d s') F0 s := by
  have h221 : (hd.heap_1 w.params).lookup 221 = some _ := rfl
  unfold lawS lawB lawE
  rw [h221]
  dsimp only [fdOf, stmtsOf, envOf, newEnv]
  simp only [List.getD_cons_zero, List.getD_cons_succ]
  clear h221
  (repeat (tb_start; (try dsimp only)))
  refine r_celM (by with_unfolding_all rfl) (by assumption) (List.mem_append.mpr (.inr (.head _))) h1 ?_ (by with_unfolding_all rfl) rfl (by decide)
  (repeat (tb_start; (try dsimp only)))
  rename_i s5 S5
  have ea : (n : Int) / 1024 % 3 = (kindF n : Nat) := by unfold kindF; omega
  rw [ea] at S5
  exact ⟨rfl, _, S5⟩
set_option maxHeartbeats 4000000 in
theorem law_6 {w : World} {A : Around} {s : Shared} {h₀ : Heap} {L : Addr} {m : Str → Option Value} {M : List (Addr × Obj)} {o : OsState} {d : Drawn} {mean : ExcName → Option Value} {mg mb : Str → Option Value} (S : Sat h₀ L m M o d s) :
    wpAny (model PySem.Challenge.rw_xo0031_01.row.prog w) A (exec (lawS w 5) (lawE w L)) (fun f s' => f = .next ∧ ∃ Rm, Sat h₀ L (fun y => if y = Str.ofString "rooms" then some (.ref Rm) else m y) ((Rm, lsN [] 0) :: M) o d s') F0 s := by
  have h221 : (hd.heap_1 w.params).lookup 221 = some _ := rfl
  unfold lawS lawB lawE
  rw [h221]
  dsimp only [fdOf, stmtsOf, envOf, newEnv]
  simp only [List.getD_cons_zero, List.getD_cons_succ]
  clear h221
  (repeat (tb_start; (try dsimp only)))
  refine r_lstE ?_
  (repeat (tb_start; (try dsimp only)))
  refine ⟨by simp, _, _, _, _, _, _, S, ?_⟩
  intro D s4 G4
  have S4 := S.grow G4
  (repeat (tb_start; (try dsimp only)))
  rename_i s5 S5
  exact ⟨rfl, D, S5⟩

end
section
open PySem.Spec PySem.Calls
noncomputable def roomsN (n : Nat) : List Int := if kindF n = 1 then [(roomA n : Nat), (roomB n : Nat), (roomB n : Nat)] else [(roomA n : Nat), (roomB n : Nat)]
noncomputable def outF (n : Nat) (k : Nat) : Option Int := if k = 2 then some (roomA n : Nat) else if k = 1 then some (roomB n : Nat) else if kindF n = 1 then some (roomB n : Nat) else none
theorem roomsF_N (n : Nat) : roomsF (roomA n : Nat) (roomB n : Nat) (outF n) = roomsN n := by
  unfold roomsF roomsN outF
  by_cases h : kindF n = 1 <;> simp [h]
set_option maxHeartbeats 4000000 in
theorem law_7 {w : World} {A : Around} {s : Shared} {h₀ : Heap} {L : Addr} {m : Str → Option Value} {M : List (Addr × Obj)} {o : OsState} {d : Drawn} {mean : ExcName → Option Value} {mg mb : Str → Option Value} {c1 c2 c3 : Obj} {ps : Array Value} {ta tb tk : Tok} {n : Nat} {D1 Rm : Addr} {v2 : Option Value} (R : Room A 12) (S : Sat h₀ L m ((Rm, lsN [] 0) :: (D1, lsN [.int (roomA n : Nat) ta, .int (roomB n : Nat) tb] 0) :: C4 L c1 c2 c3 ps) o d s) (G : Gl w mean mg mb h₀)
    (h2 : c2.data = .cell v2) (hdr : m (Str.ofString "drawn") = some (.ref D1)) (hk : m (Str.ofString "kind") = some (.int (kindF n : Nat) tk)) (hr : m (Str.ofString "rooms") = some (.ref Rm)) :
    wpAny (model PySem.Challenge.rw_xo0031_01.row.prog w) A (exec (lawS w 6) (lawE w L)) (fun f s' => f = .next ∧ ∃ rs nR c2' v2', Sat h₀ L m ((Rm, lsN rs nR) :: (D1, lsN [.int (roomA n : Nat) ta, .int (roomB n : Nat) tb] 0) :: C4 L c1 c2' c3 ps) o d s' ∧ c2'.data = .cell v2' ∧ IntsAre rs (roomsN n)) F0 s := by
  have hh := R.hh
  have h221 : (hd.heap_1 w.params).lookup 221 = some _ := rfl
  unfold lawS lawB lawE
  rw [h221]
  dsimp only [fdOf, stmtsOf, envOf, newEnv]
  simp only [List.getD_cons_zero, List.getD_cons_succ]
  clear h221
  refine r_for ?_ (by intros; with_unfolding_all rfl) (by intros; with_unfolding_all rfl)
  (repeat (tb_start; (try dsimp only)))
  refine r_lstE ?_
  (repeat (tb_start; (try dsimp only)))
  refine r_lstE ?_
  (repeat (tb_start; (try dsimp only)))
  refine ⟨by simp, _, _, _, _, _, _, S, ?_⟩
  intro E0 s1 G1
  have S1 := S.grow G1
  (repeat (tb_start; (try dsimp only)))
  refine r_lstE ?_
  (repeat (tb_start; (try dsimp only)))
  rename_i t2 s2 S2
  refine ⟨by simp, _, _, _, _, _, _, S2, ?_⟩
  intro E1 s3 G3
  have S3 := S2.grow G3
  (repeat (tb_start; (try dsimp only)))
  refine r_lstE ?_
  (repeat (tb_start; (try dsimp only)))
  rename_i t4 s4 S4 t5 s5 S5
  refine ⟨by simp, _, _, _, _, _, _, S5, ?_⟩
  intro E2 s6 G6
  have S6 := S5.grow G6
  (repeat (tb_start; (try dsimp only)))
  refine ⟨by simp, _, _, _, _, _, _, S6, ?_⟩
  intro E3 s7 G7
  have S7 := S6.grow G7
  (repeat (tb_start; (try dsimp only)))
  have hab : (0 : Int) < (roomA n : Nat) ∧ ((roomA n : Nat) : Int) < 127 ∧ (0 : Int) < (roomB n : Nat) ∧ ((roomB n : Nat) : Int) < 127 := by unfold roomA roomB; omega
  obtain ⟨Ex, ex, M7, hM7, hEx, hmE, hxl, hq⟩ : ∃ Ex ex M7, ([(E3, lsN [.ref E0, .ref E1, .ref E2] 0)] ++ ([(E2, lsN [.int 127 t4, .int 2 t5] 0)] ++ ([(E1, lsN [.int 0 t2] 0)] ++ ([(E0, lsN [] 0)] ++ (Rm, lsN [] 0) :: (D1, lsN [.int (roomA n : Nat) ta, .int (roomB n : Nat) tb] 0) :: C4 L c1 c2 c3 ps)))) = M7 ∧
      [Value.ref E0, .ref E1, .ref E2][kindF n]? = some (.ref Ex) ∧ (Ex, lsN ex 0) ∈ M7 ∧ ex.length ≤ 2 ∧ Asks ([Value.int (roomA n : Nat) ta, .int (roomB n : Nat) tb] ++ ex) (roomA n : Nat) (roomB n : Nat) (outF n) := by
    have h3 : kindF n = 0 ∨ kindF n = 1 ∨ kindF n = 2 := by unfold kindF; omega
    rcases h3 with h | h | h
    · exact ⟨E0, [], _, rfl, by rw [h]; rfl, by simp, by simp, ⟨⟨ta, rfl⟩, ⟨tb, rfl⟩, .inl ⟨rfl, by simp [outF, h]⟩, rfl, rfl, ⟨hab.1, hab.2.1⟩, hab.2.2⟩⟩
    · exact ⟨E1, [.int 0 t2], _, rfl, by rw [h]; rfl, by simp, by simp, ⟨⟨ta, rfl⟩, ⟨tb, rfl⟩, .inr (.inr ⟨t2, rfl, by simp [outF, h]⟩), rfl, rfl, ⟨hab.1, hab.2.1⟩, hab.2.2⟩⟩
    · exact ⟨E2, [.int 127 t4, .int 2 t5], _, rfl, by rw [h]; rfl, by simp, by simp, ⟨⟨ta, rfl⟩, ⟨tb, rfl⟩, .inr (.inl ⟨t4, rfl, by simp [outF, h]⟩), rfl, rfl, ⟨hab.1, hab.2.1⟩, hab.2.2⟩⟩
  have hE3 : (E3, lsN [.ref E0, .ref E1, .ref E2] 0) ∈ M7 := hM7 ▸ .head _
  have hD1 : (D1, lsN [.int (roomA n : Nat) ta, .int (roomB n : Nat) tb] 0) ∈ M7 := hM7 ▸ (by simp)
  have hRm : (Rm, lsN [] 0) ∈ M7 := hM7 ▸ (by simp)
  have hC4 : ∀ q ∈ C4 L c1 c2 c3 ps, q ∈ M7 := fun q hq => hM7 ▸ List.mem_append.mpr (.inr (List.mem_append.mpr (.inr (List.mem_append.mpr (.inr (List.mem_append.mpr (.inr (.tail _ (.tail _ hq)))))))))
  rw [hM7] at S7
  refine kba_turn (value' := PySem.Expr.Name (PySem.Str.ofString "_") ⟨0, 0, 0, 0⟩) (fun _ => rfl) ?_
  refine r_itemL ⟨_, S7.at hE3, rfl, _, rfl⟩ rfl (by simp) hEx ?_ (by with_unfolding_all rfl) (by intro _; with_unfolding_all rfl)
  refine r_addL S7 ⟨_, S7.at hD1, rfl, _, rfl⟩ ⟨_, S7.at hmE, rfl, _, rfl⟩ (by simp; omega) fun D2 s8 G8 => ?_
  have S8 := S7.grow G8
  (repeat (tb_start; (try dsimp only)))
  refine ⟨⟨_, _, _, _, _, S8⟩, ?_⟩
  refine grp_new (by have := R.dep; omega) S8 G ⟨_, S8.at (.head _), rfl, _, rfl⟩ (S8.nw _ (.head _)).2.2 fun C Gn oC oG g gs s9 S9 hg hgs fresh => ?_
  refine wpAny_pyIter_gen hg ?_
  have hroom : A.depth < recursionLimit := by have := R.dep; omega
  refine grp_for (cr := L + 1 + 1) ⟨rfl, by with_unfolding_all rfl, by with_unfolding_all rfl, by with_unfolding_all rfl, by with_unfolding_all rfl, rfl, rfl⟩ rfl G rfl hh hroom S9 (.head _) hg hgs fresh hq (.tail _ (.head _)) ?_ (.tail _ (.tail _ (hC4 _ (.tail _ (.head _))))) h2 (.tail _ (.tail _ hRm)) hr fun ocr' v' rs' n' M' s10 S10 hcr' hcd' hrm' hints hret => ?_
  · exact fun e => S8.off1 (I := D2) hRm e.symm
  rw [roomsF_N] at hints
  have hC4n : ∀ q ∈ C4 L c1 c2 c3 ps, q.1 ≠ Rm := fun q hq e => S.off1 (.tail _ hq) e
  have hDn : D1 ≠ Rm := S.off1 (p := (D1, _)) (.head _)
  have hnd := S.nd
  refine ⟨rfl, rs', n', ocr', v', S10.sub (fun q hq => ?_) hnd, hcd', hints⟩
  have hDc : D1 ≠ L + 1 + 1 := S.other (.tail _ (.head _)) (.tail _ (.tail _ (.tail _ (.head _)))) fun e => by rw [← e] at h2; cases h2
  have n12 : L + 1 ≠ L + 1 + 1 := Nat.ne_of_lt (Nat.lt_succ_self _)
  have n32 : L + 1 + 1 + 1 ≠ L + 1 + 1 := Nat.ne_of_gt (Nat.lt_succ_self _)
  rcases List.mem_cons.mp hq with rfl | hq
  · exact hrm'
  rcases List.mem_cons.mp hq with rfl | hq
  · exact hret _ (.tail _ (.tail _ hD1)) hDc hDn
  rcases List.mem_cons.mp hq with rfl | hq
  · exact hret _ (.tail _ (.tail _ (hC4 _ (.head _)))) n12 (hC4n _ (.head _))
  rcases List.mem_cons.mp hq with rfl | hq
  · exact hcr'
  rcases List.mem_cons.mp hq with rfl | hq
  · exact hret _ (.tail _ (.tail _ (hC4 _ (.tail _ (.tail _ (.head _)))))) n32 (hC4n _ (.tail _ (.tail _ (.head _))))
  · rw [List.mem_singleton.mp hq]
    refine hret _ (.tail _ (.tail _ (hC4 _ (.tail _ (.tail _ (.tail _ (.head _))))))) ?_ (hC4n _ (.tail _ (.tail _ (.tail _ (.head _)))))
    exact S.other (.tail _ (.tail _ (.tail _ (.tail _ (.tail _ (.head _)))))) (.tail _ (.tail _ (.tail _ (.head _)))) fun e => by rw [← e] at h2; cases h2

end
section
open PySem.Spec PySem.Calls
set_option maxHeartbeats 4000000 in
theorem law_8 {w : World} {A : Around} {s : Shared} {h₀ : Heap} {L : Addr} {m : Str → Option Value} {M : List (Addr × Obj)} {o : OsState} {d : Drawn} {mean : ExcName → Option Value} {mg mb : Str → Option Value} {ta tb tk : Tok} {n : Nat} {D1 Rm : Addr} {rs : List Value} {nR : Nat} (R : Room A 12) (S : Sat h₀ L m M o d s) (hRm : (Rm, lsN rs nR) ∈ M) (hD1 : (D1, lsN [.int (roomA n : Nat) ta, .int (roomB n : Nat) tb] 0) ∈ M)
    (hdr : m (Str.ofString "drawn") = some (.ref D1)) (hk : m (Str.ofString "kind") = some (.int (kindF n : Nat) tk)) (hr : m (Str.ofString "rooms") = some (.ref Rm)) (hi : IntsAre rs (roomsN n)) :
    wpAny (model PySem.Challenge.rw_xo0031_01.row.prog w) A (exec (lawS w 7) (lawE w L)) (fun f s' => f = .next ∧ Sat h₀ L m M o d s') F0 s := by
  have hh := R.hh
  have hu : A.units + 20 < cLine := by have := R.uni; omega
  have hi1 : IntsAre [Value.int (roomA n : Nat) ta, .int (roomB n : Nat) tb] [((roomA n : Nat) : Int), ((roomB n : Nat) : Int)] := .cons _ _ (.cons _ _ .nil)
  have h221 : (hd.heap_1 w.params).lookup 221 = some _ := rfl
  unfold lawS lawB lawE
  rw [h221]
  dsimp only [fdOf, stmtsOf, envOf, newEnv]
  simp only [List.getD_cons_zero, List.getD_cons_succ]
  clear h221
  (repeat (tb_start; (try dsimp only)))
  rename_i t1 s1 S1
  split
  · rename_i hk1
    have hk1' : kindF n = 1 := by have : ((kindF n : Nat) : Int) = 1 := (by simpa using hk1); omega
    (repeat (tb_start; (try dsimp only)))
    rename_i t2 s2 S2
    refine ⟨h₀, L, m, _, o, d, D1, _, _, 1, t2, S2, rfl, rfl, by decide, ⟨_, S2.at hD1, rfl, _, rfl⟩, hi1, by simp, fun D us s3 S3 hus => ?_⟩
    refine r_addL S3 ⟨_, S3.at (.tail _ hD1), rfl, _, rfl⟩ ⟨_, S3.at (.head _), rfl, _, rfl⟩ (by rw [ints_len hus]; simp) fun D2 s4 G4 => ?_
    have S4 := S3.grow G4
    refine r_neInts hu S4 (.tail _ (.tail _ hRm)) (.head _) hi (hi1.append hus) ?_
    have e : roomsN n = [((roomA n : Nat) : Int), ((roomB n : Nat) : Int)] ++ [((roomA n : Nat) : Int), ((roomB n : Nat) : Int)].drop (1 : Int).toNat := by unfold roomsN; rw [if_pos hk1']; rfl
    rw [decide_eq_true e]
    (repeat (tb_start; (try dsimp only)))
    rw [if_neg (by decide)]
    (repeat (tb_start; (try dsimp only)))
    exact ⟨rfl, S4.sub (fun q hq => .tail _ (.tail _ hq)) S.nd⟩
  · rename_i hk1
    have hk1' : kindF n ≠ 1 := fun h => hk1 (by simp [h])
    refine r_lstE ?_
    (repeat (tb_start; (try dsimp only)))
    refine ⟨by simp, _, _, _, _, _, _, S1, ?_⟩
    intro D s3 G3
    have S3 := S1.grow G3
    refine r_addL S3 ⟨_, S3.at (.tail _ hD1), rfl, _, rfl⟩ ⟨_, S3.at (.head _), rfl, _, rfl⟩ (by simp) fun D2 s4 G4 => ?_
    have S4 := S3.grow G4
    refine r_neInts hu S4 (.tail _ (.tail _ hRm)) (.head _) hi (hi1.append .nil) ?_
    have e : roomsN n = [((roomA n : Nat) : Int), ((roomB n : Nat) : Int)] ++ [] := by unfold roomsN; rw [if_neg hk1']; rfl
    rw [decide_eq_true e]
    (repeat (tb_start; (try dsimp only)))
    rw [if_neg (by decide)]
    (repeat (tb_start; (try dsimp only)))
    exact ⟨rfl, S4.sub (fun q hq => .tail _ (.tail _ hq)) S.nd⟩

end
section
open PySem.Spec PySem.Calls
/-- a list of heaps -/
structure HpAt (N : List (Addr × Obj)) (Hp : Addr) (hs : List (Int × Int)) : Prop where
  ex : ∃ vs e, (Hp, lsN vs e) ∈ N ∧ PrsM N vs hs
set_option maxHeartbeats 4000000 in
theorem law_9 {w : World} {A : Around} {s : Shared} {h₀ : Heap} {L : Addr} {m : Str → Option Value} {M : List (Addr × Obj)} {o : OsState} {d : Drawn} {mean : ExcName → Option Value} {mg mb : Str → Option Value} {c1 c2 c3 : Obj} {ps : Array Value} {tb : Tok} {l : List Nat} {X : List (Addr × Obj)} {v3 : Option Value} (R : Room A 12) (S : Sat h₀ L m (X ++ C4 L c1 c2 c3 ps) o d s) (G : Gl w mean mg mb h₀)
    (h3 : c3.data = .cell v3) (hb : m (Str.ofString "begin") = some (.str (T l) tb)) (hl : l.length ≤ 60) (h4 : (rawF l 0 []).length ≤ 4) :
    wpAny (model PySem.Challenge.rw_xo0031_01.row.prog w) A (exec (lawS w 8) (lawE w L)) (fun f s' => f = .next ∧ ∃ N Hp c3', Sat h₀ L m (N ++ X ++ C4 L c1 c2 c3' ps) o d s' ∧ HpAt N Hp (heapsF l) ∧ c3'.data = .cell (some (.ref Hp))) F0 s := by
  have hh := R.hh
  have h221 : (hd.heap_1 w.params).lookup 221 = some _ := rfl
  unfold lawS lawB lawE
  rw [h221]
  dsimp only [fdOf, stmtsOf, envOf, newEnv]
  simp only [List.getD_cons_zero, List.getD_cons_succ]
  clear h221
  (repeat (tb_start; (try dsimp only)))
  refine ⟨⟨_, _, _, _, _, S⟩, ?_⟩
  refine heaps_ok w l _ hl h4 A s mean mg mb _ _ (R.less (by decide)) (G.at S) S.gb trivial ?_
  rintro v s1 ⟨D, e, vs, N, rfl, G1, hp⟩
  have S1 := S.grow G1
  have hm3 : (L + 1 + 1 + 1, c3) ∈ ((D, lsN vs e) :: N) ++ (X ++ C4 L c1 c2 c3 ps) := List.mem_append.mpr (.inr (List.mem_append.mpr (.inr (.tail _ (.tail _ (.head _))))))
  refine chg_cellM S1 hm3 h3 rfl (by with_unfolding_all rfl) (by with_unfolding_all rfl) fun c3' s2 h3' S2 => ?_
  have S1' : Sat h₀ L m ((((D, lsN vs e) :: N) ++ X ++ [(L + 1, c1), (L + 1 + 1, c2)]) ++ (L + 1 + 1 + 1, c3) :: [(63, tabObj ps)]) o d s1 := by simpa [List.append_assoc] using S1
  have hcm := chg_mid (ob' := c3') S1'
  have e1 : (((D, lsN vs e) :: N) ++ X ++ [(L + 1, c1), (L + 1 + 1, c2)]) ++ (L + 1 + 1 + 1, c3) :: [(63, tabObj ps)] = ((D, lsN vs e) :: N) ++ (X ++ C4 L c1 c2 c3 ps) := by simp [List.append_assoc]
  rw [e1] at hcm
  rw [hcm] at S2
  exact ⟨rfl, (D, lsN vs e) :: N, D, c3', by simpa [List.append_assoc] using S2, ⟨vs, e, .head _, hp⟩, h3'⟩
set_option maxHeartbeats 4000000 in
theorem law_10 {w : World} {A : Around} {s : Shared} {h₀ : Heap} {L : Addr} {m : Str → Option Value} {M : List (Addr × Obj)} {o : OsState} {d : Drawn} {mean : ExcName → Option Value} {mg mb : Str → Option Value} {v : Value} (S : Sat h₀ L m M o d s) (hb : m (Str.ofString "begin") = some v) :
    wpAny (model PySem.Challenge.rw_xo0031_01.row.prog w) A (exec (lawS w 9) (lawE w L)) (fun f s' => f = .next ∧ Sat h₀ L (fun y => if y = Str.ofString "row" then some v else m y) M o d s') F0 s := by
  have h221 : (hd.heap_1 w.params).lookup 221 = some _ := rfl
  unfold lawS lawB lawE
  rw [h221]
  dsimp only [fdOf, stmtsOf, envOf, newEnv]
  simp only [List.getD_cons_zero, List.getD_cons_succ]
  clear h221
  (repeat (tb_start; (try dsimp only)))
  rename_i s1 S1
  exact ⟨rfl, S1⟩

end
section
open PySem.Spec PySem.Calls
open PyProof.Rows.LCg (lst lst_snoc)
noncomputable def hsStep (r : Int) (hs : List (Int × Int)) : List (Int × Int) := hs.map fun p => (p.1, p.2 + min r p.1)
noncomputable def ledAll : List Int → List Nat → List Nat
  | [], l => l
  | r :: rms, l => ledAll rms (ledF r.toNat l [])
noncomputable def hsAll : List Int → List (Int × Int) → List (Int × Int)
  | [], hs => hs
  | r :: rms, hs => hsAll rms (hsStep r hs)
/-- each carrier's turn is as the law asks -/
noncomputable def goodF : List Int → List Nat → List (Int × Int) → Bool
  | [], _, _ => true
  | r :: rms, l, hs => decide ((ledF r.toNat l []).length ≤ 60) && decide ((rawF (ledF r.toNat l []) 0 []).length ≤ 4) && decide (heapsF (ledF r.toNat l []) = hsStep r hs) && goodF rms (ledF r.toNat l []) (hsStep r hs)
theorem Sat.subl {h₀ : Heap} {L : Addr} {m : Str → Option Value} {M M' : List (Addr × Obj)} {o : OsState} {d : Drawn} {s : Shared} (S : Sat h₀ L m M o d s) (h : M'.Sublist M) : Sat h₀ L m M' o d s :=
  S.sub (fun _ hq => h.subset hq) (S.nd.sublist (h.map _))
set_option maxHeartbeats 4000000 in
inductive J11 (L : Addr) (c1 : Obj) (Rm : Addr) (rs : List Value) (nR : Nat) (bl l : List Nat) (tb : Tok) (rms : List Int) (hs : List (Int × Int)) (i : Nat) (m : Str → Option Value) (M : List (Addr × Obj)) : Prop
  | mk (N' : List (Addr × Obj)) (Hp' : Addr) (c2' c3' : Obj) (ps' : Array Value) (v2' : Option Value) (t' : Tok) (li : List Nat) (hsi : List (Int × Int)) (h1 : M = N' ++ (Rm, lsN rs nR) :: C4 L c1 c2' c3' ps') (h2 : TriplesOk ps'.toList) (h3 : c2'.data = .cell v2')
    (h4 : c3'.data = .cell (some (.ref Hp'))) (h5 : HpAt N' Hp' hsi) (h6 : m (Str.ofString "rooms") = some (.ref Rm)) (h7 : m (Str.ofString "begin") = some (.str (T bl) tb)) (h8 : m (Str.ofString "row") = some (.str (T li) t')) (h9 : li.length ≤ 60)
    (h10 : goodF (rms.drop i) li hsi = true) (h11 : ledAll (rms.drop i) li = ledAll rms l) (h12 : hsAll (rms.drop i) hsi = hsAll rms hs) (h13 : hsi.length ≤ 1000) : J11 L c1 Rm rs nR bl l tb rms hs i m M
theorem law_11 {w : World} {A : Around} {s : Shared} {h₀ : Heap} {L : Addr} {m : Str → Option Value} {M : List (Addr × Obj)} {o : OsState} {d : Drawn} {mean : ExcName → Option Value} {mg mb : Str → Option Value} {c1 c2 c3 : Obj} {ps : Array Value} {tb t0 : Tok} {l bl : List Nat} {N : List (Addr × Obj)} {Rm Hp : Addr} {rs : List Value} {nR : Nat} {rms : List Int} {hs : List (Int × Int)} {v2 : Option Value}
    (R : Room A 12) (S : Sat h₀ L m (N ++ (Rm, lsN rs nR) :: C4 L c1 c2 c3 ps) o d s) (G : Gl w mean mg mb h₀) (ht : TriplesOk ps.toList) (h2 : c2.data = .cell v2) (h3 : c3.data = .cell (some (.ref Hp))) (hH : HpAt N Hp hs)
    (hr : m (Str.ofString "rooms") = some (.ref Rm)) (hb : m (Str.ofString "begin") = some (.str (T bl) tb)) (hrow : m (Str.ofString "row") = some (.str (T l) t0)) (hi : IntsAre rs rms) (hrm : ∀ r ∈ rms, 1 ≤ r ∧ r ≤ 9) (hl : l.length ≤ 60) (hg : goodF rms l hs = true) (hsz : hs.length ≤ 1000) :
    wpAny (model PySem.Challenge.rw_xo0031_01.row.prog w) A (exec (lawS w 10) (lawE w L)) (fun f s' => f = .next ∧ ∃ m' N' Hp' c2' c3' ps' v2' t', Sat h₀ L m' (N' ++ (Rm, lsN rs nR) :: C4 L c1 c2' c3' ps') o d s' ∧ TriplesOk ps'.toList ∧ c2'.data = .cell v2' ∧ c3'.data = .cell (some (.ref Hp')) ∧ HpAt N' Hp' (hsAll rms hs) ∧
      m' (Str.ofString "rooms") = some (.ref Rm) ∧ m' (Str.ofString "begin") = some (.str (T bl) tb) ∧ m' (Str.ofString "row") = some (.str (T (ledAll rms l)) t')) F0 s := by
  have hh := R.hh
  have hu : A.units + 20 < cLine := by have := R.uni; omega
  have h221 : (hd.heap_1 w.params).lookup 221 = some _ := rfl
  unfold lawS lawB lawE
  rw [h221]
  dsimp only [fdOf, stmtsOf, envOf, newEnv]
  simp only [List.getD_cons_zero, List.getD_cons_succ]
  clear h221
  refine r_forG ?_ (by intro _; with_unfolding_all rfl)
  (repeat (tb_start; (try dsimp only)))
  have hRm : (Rm, lsN rs nR) ∈ N ++ (Rm, lsN rs nR) :: C4 L c1 c2 c3 ps := List.mem_append.mpr (.inr (.head _))
  refine r_iterLG hh S [(Rm, lsN rs nR)] ⟨_, S.at hRm, rfl, _, rfl⟩ (.inl ⟨_, .head _⟩)
    (fun i m M => J11 L c1 Rm rs nR bl l tb rms hs i m M)
    (fun j m M hJ p hp => by
      obtain ⟨N', Hp', c2', c3', ps', v2', t', li, hsi, rfl⟩ := hJ
      rw [List.mem_singleton.mp hp]; exact List.mem_append.mpr (.inr (.head _)))
    ⟨N, Hp, c2, c3, ps, v2, t0, l, hs, rfl, ht, h2, h3, hH, hr, hb, hrow, hl, hg, rfl, rfl, hsz⟩ ?_ ?_
  · rintro i v m₁ M₁ I oI s1 hv hK ⟨N', Hp', c2', c3', ps', v2', t', li, hsi, rfl, ht', h2', h3', hH', mr, mb', mrow, hli, hgi, hled, hhs, hsz'⟩ S1
    obtain ⟨r, tr, rfl, hri⟩ := ints_at hi hv
    have hdr : rms.drop i = r :: rms.drop (i + 1) := by
      have hil : i < rms.length := by
        rcases Nat.lt_or_ge i rms.length with h | h
        · exact h
        · rw [List.getElem?_eq_none h] at hri; cases hri
      rw [List.drop_eq_getElem_cons hil]
      rw [List.getElem?_eq_getElem hil] at hri
      rw [Option.some.inj hri]
    rw [hdr] at hgi hled hhs
    simp only [goodF, Bool.and_eq_true, decide_eq_true_eq] at hgi
    obtain ⟨⟨⟨g1, g2⟩, g3⟩, g4⟩ := hgi
    obtain ⟨hr1, hr9⟩ := hrm r (List.mem_of_getElem? hri)
    have S1' : Sat h₀ L m₁ (((I, oI) :: N' ++ [(Rm, lsN rs nR), (L + 1, c1)]) ++ (L + 1 + 1, c2') :: [(L + 1 + 1 + 1, c3'), (63, tabObj ps')]) o d s1 := by simpa [List.append_assoc] using S1
    refine wpAny_assign_Name (chg_cellM S1' (List.mem_append.mpr (.inr (.head _))) h2' rfl (by with_unfolding_all rfl) (by with_unfolding_all rfl) fun c2'' s2 h2'' S2 => ?_)
    rw [chg_mid S1'] at S2
    (repeat (tb_start; (try dsimp only)))
    refine r_celM (by with_unfolding_all rfl) S2 (List.mem_append.mpr (.inr (.head _))) h2'' ?_ (by with_unfolding_all rfl) rfl (by decide)
    (repeat (tb_start; (try dsimp only)))
    refine ⟨⟨_, _, _, _, _, S2⟩, ?_⟩
    have er : r = ((r.toNat : Nat) : Int) := by omega
    rw [er]
    have S2' : Sat h₀ L m₁ ((63, tabObj ps') :: (((I, oI) :: N' ++ [(Rm, lsN rs nR), (L + 1, c1)]) ++ (L + 1 + 1, c2'') :: [(L + 1 + 1 + 1, c3')])) o d s2 := S2.perm (by
      have := List.perm_append_comm (l₁ := [(63, tabObj ps')]) (l₂ := (((I, oI) :: N' ++ [(Rm, lsN rs nR), (L + 1, c1)]) ++ (L + 1 + 1, c2'') :: [(L + 1 + 1 + 1, c3')]))
      simpa [List.append_assoc] using this)
    refine r_led (R.less (by decide)) S2' G ht' (by omega) (by omega) fun t3 ps3 s3 S3 ht3 => ?_
    (repeat (tb_start; (try dsimp only)))
    rename_i s4 S4
    obtain ⟨m4, hm4, q1, q2, q3⟩ : ∃ m4, (fun y => if y = Str.ofString "row" then some (Value.str (T (ledF r.toNat li [])) t3) else m₁ y) = m4 ∧ m4 (Str.ofString "rooms") = some (.ref Rm) ∧ m4 (Str.ofString "begin") = some (.str (T bl) tb) ∧ m4 (Str.ofString "row") = some (.str (T (ledF r.toNat li [])) t3) :=
      ⟨_, rfl, by tb_rel, by tb_rel, by tb_rel⟩
    rw [hm4] at S4
    obtain ⟨vs, e, hmH, hPr⟩ := hH'.ex
    obtain ⟨Y, hY, hYN, hYc2, hYc3⟩ : ∃ Y, ((I, oI) :: N' ++ [(Rm, lsN rs nR), (L + 1, c1)]) ++ (L + 1 + 1, c2'') :: [(L + 1 + 1 + 1, c3')] = Y ∧ (∀ q ∈ N', q ∈ Y) ∧ (L + 1 + 1, c2'') ∈ Y ∧ (L + 1 + 1 + 1, c3') ∈ Y :=
      ⟨_, rfl, fun q hq => by simp [hq], by simp, by simp⟩
    rw [hY] at S4
    refine r_comp (cl := [(Str.ofString "room", L + 1 + 1)]) (by with_unfolding_all rfl) (by decide) rfl (by decide) ?_
    refine r_celM (by with_unfolding_all rfl) S4 (.tail _ hYc3) h3' ?_ (by with_unfolding_all rfl) rfl (by decide)
    have cc : s4.heap.IsCell (L + 1 + 1) (some (.int r tr)) := ⟨c2'', S4.at (.tail _ hYc2), h2''⟩
    have G4 := G.at S4
    refine ⟨o, d, vs.length, _, (fun i ys news => PrsM news ys (hsStep r (hsi.take i))), S4.gb, S4.os, S4.dr, ?_, itb_list hh ⟨_, S4.at (.tail _ (hYN _ hmH)), rfl, _, rfl⟩, PrsM.nil, ?_, ?_, ?_⟩
    · have := hPr.len; omega
    · rintro i ys news h
      have := h.len
      rw [hsStep, List.length_map, List.length_take] at this
      omega
    · rintro i2 v ys m₂ news I2 oI2 D C sa hi2 hv2 hI Sa
      obtain ⟨p, hp, T', ta, tb', rfl, hT⟩ := hPr.nth i2 v hv2
      refine r_asgP hh Sa ⟨_, Sa.fr.keep _ _ (S4.at (.tail _ (hYN _ hT))), rfl, 0, rfl⟩ ?_ (by with_unfolding_all rfl) (by with_unfolding_all rfl) (by with_unfolding_all rfl)
      intro sb Sb
      (repeat (tb_start; (try dsimp only)))
      refine r_tup ?_
      (repeat (tb_start; (try dsimp only)))
      rename_i t9 s9 S9
      refine ⟨by simp, _, _, _, _, _, _, S9, ?_⟩
      intro Tn s10 G10
      have S10 := S9.grow G10
      refine ⟨_, [_], news, S10, ?_⟩
      have hst : hsStep r (hsi.take (i2 + 1)) = hsStep r (hsi.take i2) ++ [(p.1, p.2 + min r p.1)] := by
        rw [take_step hp]; simp [hsStep]
      rw [hst]
      exact PrsM.snoc (hI.sub fun q hq _ => .tail _ hq) (IsPrM.mk (p := (p.1, p.2 + min r p.1)) (.head _))
    · rintro D ys news s5 hI G5
      clear G4
      have hvl := hPr.len
      rw [hvl, List.take_length] at hI
      have S5 := S4.grow G5
      (repeat (tb_start; (try dsimp only)))
      -- heaps = ..
      have S5' : Sat h₀ L m4 (((D, lst ys) :: news ++ (63, tabObj ps3) :: ((I, oI) :: N' ++ [(Rm, lsN rs nR), (L + 1, c1), (L + 1 + 1, c2'')])) ++ (L + 1 + 1 + 1, c3') :: []) o d s5 := by
        rw [← hY] at S5; simpa [List.append_assoc] using S5
      refine chg_cellM S5' (List.mem_append.mpr (.inr (.head _))) h3' rfl (by with_unfolding_all rfl) (by with_unfolding_all rfl) fun c3'' s6 h3'' S6 => ?_
      rw [chg_mid S5'] at S6
      (repeat (tb_start; (try dsimp only)))
      refine ⟨⟨_, _, _, _, _, S6⟩, ?_⟩
      refine heaps_ok w (ledF r.toNat li []) t3 g1 g2 A s6 mean mg mb _ _ (R.less (by decide)) (G.at S6) S6.gb trivial ?_
      rintro v s7 ⟨D2, e2, vs2, N2, rfl, G7, hp2⟩
      have S7 := S6.grow G7
      (repeat (tb_start; (try dsimp only)))
      refine r_celM (by with_unfolding_all rfl) S7 (List.mem_append.mpr (.inr (List.mem_append.mpr (.inr (.head _))))) h3'' ?_ (by with_unfolding_all rfl) rfl (by decide)
      have hDm : (D, lst ys) ∈ ((D2, lsN vs2 e2) :: N2) ++ ((D, lst ys) :: news ++ (63, tabObj ps3) :: ((I, oI) :: N' ++ [(Rm, lsN rs nR), (L + 1, c1), (L + 1 + 1, c2'')]) ++ [(L + 1 + 1 + 1, c3'')]) := List.mem_append.mpr (.inr (.head _))
      refine r_nePrs hu S7 (.head _) hDm (hp2.sub fun q hq _ => List.mem_append.mpr (.inl hq)) (hI.sub fun q hq _ => List.mem_append.mpr (.inr (List.mem_append.mpr (.inl (List.mem_append.mpr (.inl (.tail _ hq))))))) ?_
      rw [decide_eq_true g3]
      (repeat (tb_start; (try dsimp only)))
      rw [if_neg (by decide)]
      (repeat (tb_start; (try dsimp only)))
      have S8 : Sat h₀ L m4 (((D, lst ys) :: news) ++ (I, oI) :: ((Rm, lsN rs nR) :: C4 L c1 c2'' c3'' ps3)) o d s7 := by
        refine Sat.subl (Sat.perm S7 (M' := ((D2, lsN vs2 e2) :: N2) ++ (((D, lst ys) :: news) ++ (I, oI) :: (N' ++ (Rm, lsN rs nR) :: C4 L c1 c2'' c3'' ps3))) ?_) ?_
        · refine List.Perm.append_left _ ?_
          rw [show (D, lst ys) :: news ++ (63, tabObj ps3) :: ((I, oI) :: N' ++ [(Rm, lsN rs nR), (L + 1, c1), (L + 1 + 1, c2'')]) ++ [(L + 1 + 1 + 1, c3'')] = ((D, lst ys) :: news) ++ ([(63, tabObj ps3)] ++ ((I, oI) :: N' ++ [(Rm, lsN rs nR), (L + 1, c1), (L + 1 + 1, c2''), (L + 1 + 1 + 1, c3'')])) by simp [List.append_assoc],
            show ((D, lst ys) :: news) ++ (I, oI) :: (N' ++ (Rm, lsN rs nR) :: C4 L c1 c2'' c3'' ps3) = ((D, lst ys) :: news) ++ (((I, oI) :: N' ++ [(Rm, lsN rs nR), (L + 1, c1), (L + 1 + 1, c2''), (L + 1 + 1 + 1, c3'')]) ++ [(63, tabObj ps3)]) by simp [List.append_assoc]]
          exact List.Perm.append_left _ List.perm_append_comm
        · refine List.Sublist.trans ?_ (List.sublist_append_right _ _)
          exact List.Sublist.append (List.Sublist.refl _) ((List.sublist_append_right N' _).cons_cons _)
      exact ⟨m4, (D, lst ys) :: news, (Rm, lsN rs nR) :: C4 L c1 c2'' c3'' ps3, S8, (D, lst ys) :: news, D, c2'', c3'', ps3, _, t3, _, hsStep r hsi, rfl, ht3, h2'', h3'', ⟨ys, _, .head _, hI.sub fun q hq _ => .tail _ hq⟩, q1, q2, q3, g1, g4, hled, hhs, by rw [hsStep, List.length_map]; exact hsz'⟩
  · rintro m₁ M₁ s1 ⟨N', Hp', c2', c3', ps', v2', t', li, hsi, rfl, ht', h2', h3', hH', mr, mb', mrow, hli, hgi, hled, hhs, hsz'⟩ S1
    have hvl : rs.length = rms.length := ints_len hi
    rw [hvl, List.drop_length] at hled hhs
    simp only [ledAll, hsAll] at hled hhs
    subst hled hhs
    exact ⟨rfl, m₁, N', Hp', c2', c3', ps', v2', t', S1, ht', h2', h3', hH', mr, mb', mrow⟩

end
section
open PySem.Spec PySem.Calls
noncomputable def tabF (c : Nat) : Nat := if c = 111 then 32 else 9
noncomputable def leadF (l : List Nat) : List Nat := l.map tabF ++ List.replicate (cntF 111 l) 9
theorem cntF_le (c : Nat) (l : List Nat) : cntF c l ≤ l.length := List.length_filter_le _ _
set_option maxHeartbeats 4000000 in
theorem law_12 {w : World} {A : Around} {s : Shared} {h₀ : Heap} {L : Addr} {m : Str → Option Value} {M : List (Addr × Obj)} {o : OsState} {d : Drawn} {mean : ExcName → Option Value} {mg mb : Str → Option Value} {l : List Nat} {t0 : Tok} (R : Room A 12) (S : Sat h₀ L m M o d s) (G : Gl w mean mg mb h₀) (hrow : m (Str.ofString "row") = some (.str (T l) t0)) (hl : l.length ≤ 60) :
    wpAny (model PySem.Challenge.rw_xo0031_01.row.prog w) A (exec (lawS w 11) (lawE w L)) (fun f s' => f = .next ∧ ∃ t, Sat h₀ L (fun y => if y = Str.ofString "lead" then some (.str (T (leadF l)) t) else m y) M o d s') F0 s := by
  have hh := R.hh
  have h221 : (hd.heap_1 w.params).lookup 221 = some _ := rfl
  unfold lawS lawB lawE
  rw [h221]
  dsimp only [fdOf, stmtsOf, envOf, newEnv]
  simp only [List.getD_cons_zero, List.getD_cons_succ]
  clear h221
  (repeat (tb_start; (try dsimp only)))
  with_reducible refine r_smeth PySem.F.slot_str_join PySem.F.type_str_join ?_ (by with_unfolding_all rfl) (by with_unfolding_all rfl) (by with_unfolding_all rfl) (by with_unfolding_all rfl) (by with_unfolding_all rfl)
  (repeat (tb_start; (try dsimp only)))
  refine ⟨_, _, rfl, ?_⟩
  (repeat (tb_start; (try dsimp only)))
  refine r_comp (cl := []) (by with_unfolding_all rfl) (by decide) rfl (by decide) ?_
  (repeat (tb_start; (try dsimp only)))
  rename_i t1 s1 S1
  refine ⟨o, d, (T l).cps.size, _, (fun i ys news => news = [] ∧ Sgs ys ((l.map tabF).take i)), S1.gb, S1.os, S1.dr, by show l.toArray.size ≤ _; simp; omega, itb_str hh, ⟨rfl, by simpa using Sgs.nil⟩, ?_, ?_, ?_⟩
  · rintro i ys news ⟨-, h⟩
    have := h.len
    rw [List.length_take] at this
    omega
  · rintro i v ys m₁ news I oI D C s3 hi ⟨c, u, hc, rfl⟩ ⟨rfl, hI⟩ S3
    have hc' : l[i]? = some c := by simpa [T] using hc
    have hct : (l.map tabF)[i]? = some (tabF c) := by rw [List.getElem?_map, hc']; rfl
    have eT : ({ cps := #[c] } : Str) = T [c] := rfl
    rw [eT]
    refine r_asgN S3 ?_ (by with_unfolding_all rfl) (by with_unfolding_all rfl)
    intro s3' S3'
    (repeat (tb_start; (try dsimp only)))
    split
    · rename_i h1
      have h1' : c = 111 := by simpa using h1
      (repeat (tb_start; (try dsimp only)))
      refine ⟨_, [], _, by assumption, rfl, ?_⟩
      rw [take_step hct]
      have e : tabF c = 32 := by unfold tabF; rw [if_pos h1']
      rw [e]
      exact hI.snoc _ _
    · rename_i h1
      have h1' : ¬ c = 111 := by simpa using h1
      refine r_kT lit_tab (by assumption) ?_
      intro t5 s5 S5
      refine ⟨_, [], _, S5, rfl, ?_⟩
      rw [take_step hct]
      have e : tabF c = 9 := by unfold tabF; rw [if_neg h1']
      rw [e]
      exact hI.snoc _ _
  · rintro D ys news s' ⟨rfl, hI⟩ G'
    have hsz : (T l).cps.size = (l.map tabF).length := by rw [List.length_map]; exact T_length l
    rw [hsz, List.take_length] at hI
    have S5 := S1.grow G'
    (repeat (tb_start; (try dsimp only)))
    refine r_joinT S5 ⟨_, S5.at (.head _), rfl, _, rfl⟩ hI (by rw [List.length_map]; omega) ?_
    intro t6 s6 S6
    (repeat (tb_start; (try dsimp only)))
    refine r_kT lit_tab (by assumption) ?_
    intro t7 s7 S7
    (repeat (tb_start; (try dsimp only)))
    with_reducible refine r_smeth PySem.F.slot_str_count PySem.F.type_str_count ?_ (by with_unfolding_all rfl) (by with_unfolding_all rfl) (by with_unfolding_all rfl) (by with_unfolding_all rfl) (by with_unfolding_all rfl)
    (repeat (tb_start; (try dsimp only)))
    refine ⟨_, _, rfl, ?_⟩
    (repeat (tb_start; (try dsimp only)))
    rename_i t8 s8 S8
    refine r_cntT S8 ?_
    intro t9 s9 S9
    have hcl := cntF_le 111 l
    refine r_mulT S9 (by omega) ?_
    intro t10 s10 S10
    refine r_addT S10 (by simp; omega) ?_
    intro t11 s11 S11
    (repeat (tb_start; (try dsimp only)))
    rename_i s12 S12
    exact ⟨rfl, t11, S12.sub (fun q hq => .tail _ hq) S.nd⟩
set_option maxHeartbeats 4000000 in
theorem law_13 {w : World} {A : Around} {s : Shared} {h₀ : Heap} {L : Addr} {m : Str → Option Value} {M : List (Addr × Obj)} {o : OsState} {d : Drawn} {mean : ExcName → Option Value} {mg mb : Str → Option Value} (S : Sat h₀ L m M o d s) :
    wpAny (model PySem.Challenge.rw_xo0031_01.row.prog w) A (exec (lawS w 12) (lawE w L)) (fun f s' => f = .next ∧ ∃ D, Sat h₀ L (fun y => if y = Str.ofString "struck" then some (.ref D) else m y) ((D, lsN [] 0) :: M) o d s') F0 s := by
  have h221 : (hd.heap_1 w.params).lookup 221 = some _ := rfl
  unfold lawS lawB lawE
  rw [h221]
  dsimp only [fdOf, stmtsOf, envOf, newEnv]
  simp only [List.getD_cons_zero, List.getD_cons_succ]
  clear h221
  (repeat (tb_start; (try dsimp only)))
  refine r_lstE ?_
  (repeat (tb_start; (try dsimp only)))
  refine ⟨by simp, _, _, _, _, _, _, S, ?_⟩
  intro D s4 G4
  have S4 := S.grow G4
  (repeat (tb_start; (try dsimp only)))
  rename_i s5 S5
  exact ⟨rfl, D, S5⟩
noncomputable def wsOf (l : List Nat) : Ws := wsF (l ++ [120, 32]) ⟨0, 0, 0, []⟩
/-- a Whitespace in the ledger -/
structure WsAt (N : List (Addr × Obj)) (x : Addr) (z : Ws) : Prop where
  ex : ∃ dx f c T1 T2 t1 t2 vs, Inst N x dx 181 .plain f c ∧ f "nt" = some (.int z.nt t1) ∧ f "norm" = some (.ref T1) ∧ (T1, tpN [.ref T2, .int z.b t2]) ∈ N ∧ (T2, tpN vs) ∈ N ∧ IntsAre vs z.cnt ∧ f "longest_run_of_spaces" = none
set_option maxHeartbeats 4000000 in
theorem law_14 {w : World} {A : Around} {s : Shared} {h₀ : Heap} {L : Addr} {m : Str → Option Value} {M : List (Addr × Obj)} {o : OsState} {d : Drawn} {mean : ExcName → Option Value} {mg mb : Str → Option Value} {l : List Nat} {t0 : Tok} (R : Room A 12) (S : Sat h₀ L m M o d s) (G : Gl w mean mg mb h₀) (hlead : m (Str.ofString "lead") = some (.str (T l) t0)) (hl : l.length ≤ 150) :
    wpAny (model PySem.Challenge.rw_xo0031_01.row.prog w) A (exec (lawS w 13) (lawE w L)) (fun f s' => f = .next ∧ ∃ N x, Sat h₀ L (fun y => if y = Str.ofString "nanny" then some (.ref x) else m y) (N ++ M) o d s' ∧ WsAt N x (wsOf l)) F0 s := by
  have hh := R.hh
  have h221 : (hd.heap_1 w.params).lookup 221 = some _ := rfl
  unfold lawS lawB lawE
  rw [h221]
  dsimp only [fdOf, stmtsOf, envOf, newEnv]
  simp only [List.getD_cons_zero, List.getD_cons_succ]
  clear h221
  (repeat (tb_start; (try dsimp only)))
  refine r_kT lit_xb S ?_
  intro t1 s1 S1
  refine r_addT S1 (by simp; omega) ?_
  intro t2 s2 S2
  (repeat (tb_start; (try dsimp only)))
  refine ⟨⟨_, _, _, _, _, S2⟩, ?_⟩
  refine r_ws (R.less (by decide)) S2 G (by simp; omega) fun x dx f c s3 N T1 T2 ta tb vs S3 I hnt hnorm h1 h2 hi hlr => ?_
  (repeat (tb_start; (try dsimp only)))
  rename_i s4 S4
  exact ⟨rfl, N, x, S4, ⟨dx, f, c, T1, T2, ta, tb, vs, I, hnt, hnorm, h1, h2, hi, hlr⟩⟩

end
section
open PySem.Spec PySem.Calls
noncomputable def runF (z : Ws) : Int := max ((z.cnt.length : Int) - 1) z.b
noncomputable def strikeF : Nat → List Nat → Option (List Int)
  | 0, _ => none
  | f + 1, l => if 0 < runF (wsOf l) then (match (wsOf l).cnt with | c0 :: _ => (strikeF f (remF l)).map fun r => ((wsOf l).nt - c0) :: r | [] => none) else some []
theorem remF_len : ∀ (l : List Nat), (remF l).length ≤ l.length
  | [] => Nat.le_refl _
  | [_] => Nat.le_refl _
  | c :: d :: r => by
    rw [remF]
    split
    · have := remF_len r; simp; omega
    · have := remF_len (d :: r); simp at this ⊢; omega
theorem wsF_len : ∀ (l : List Nat) (z : Ws) (k : Nat), z.b ≤ k → z.cnt.length ≤ k → (wsF l z).cnt.length ≤ k + l.length ∧ (wsF l z).b ≤ k + l.length
  | [], z, k, h1, h2 => ⟨h2, h1⟩
  | c :: r, z, k, h1, h2 => by
    rw [wsF]
    split
    · have := wsF_len r ⟨z.b + 1, z.n + 1, z.nt, z.cnt⟩ (k + 1) (by show z.b + 1 ≤ k + 1; omega) (by show z.cnt.length ≤ k + 1; omega)
      simp only [List.length_cons]; omega
    · split
      · have hb : (bumpF z.cnt z.b).length ≤ k + 1 := by rw [bumpF_len]; have := growF_le z.cnt z.b; omega
        have := wsF_len r ⟨0, z.n + 1, z.nt + 1, bumpF z.cnt z.b⟩ (k + 1) (Nat.zero_le _) hb
        simp only [List.length_cons]; omega
      · simp only [List.length_cons]; omega
theorem wsOf_len (l : List Nat) : (wsOf l).cnt.length ≤ l.length + 2 := by
  have := (wsF_len (l ++ [120, 32]) ⟨0, 0, 0, []⟩ 0 (Nat.le_refl _) (Nat.le_refl _)).1
  simpa [wsOf] using this
theorem seqIdx0 (n : Nat) (h : 0 < n) : seqIndex? 0 n = some 0 := by
  have e : seqIndex? 0 n = if (decide ((0 : Int) ≤ 0) && decide ((0 : Int) < n)) = true then some (0 : Int).toNat else none := rfl
  rw [e, if_pos (by simp; omega)]
  rfl
inductive J15 (h₀ : Heap) (L : Addr) (m : Str → Option Value) (o : OsState) (d : Drawn) (X : List (Addr × Obj)) (St : Addr) (st : List Int) (f : Nat) (s' : Shared) : Prop
  | mk (m' : Str → Option Value) (l' : List Nat) (t' : Tok) (Nw' : List (Addr × Obj)) (x' : Addr) (us : List Value) (k : Nat) (rest : List Int) (S : Sat h₀ L m' (Nw' ++ (St, lsN us k) :: X) o d s') (h1 : m' (Str.ofString "lead") = some (.str (T l') t')) (h2 : m' (Str.ofString "nanny") = some (.ref x'))
    (h3 : m' (Str.ofString "struck") = some (.ref St)) (h4 : WsAt Nw' x' (wsOf l')) (h5 : l'.length ≤ 150) (h6 : strikeF f l' = some rest) (h7 : IntsAre us (st.take us.length)) (h8 : st.drop us.length = rest) (h9 : f + us.length ≤ 900)
    (h10 : ∀ y, y ≠ Str.ofString "lead" → y ≠ Str.ofString "nanny" → m' y = m y) : J15 h₀ L m o d X St st f s'
set_option maxHeartbeats 4000000 in
theorem law_15 {w : World} {A : Around} {s : Shared} {h₀ : Heap} {L : Addr} {m : Str → Option Value} {M : List (Addr × Obj)} {o : OsState} {d : Drawn} {mean : ExcName → Option Value} {mg mb : Str → Option Value} {l : List Nat} {t0 : Tok} {Nw X : List (Addr × Obj)} {St x : Addr} {fuel : Nat} {st : List Int} (R : Room A 12) (S : Sat h₀ L m (Nw ++ (St, lsN [] 0) :: X) o d s) (G : Gl w mean mg mb h₀)
    (hlead : m (Str.ofString "lead") = some (.str (T l) t0)) (hnan : m (Str.ofString "nanny") = some (.ref x)) (hst : m (Str.ofString "struck") = some (.ref St)) (hw : WsAt Nw x (wsOf l)) (hl : l.length ≤ 150) (hf : strikeF fuel l = some st) (hfu : fuel ≤ 900) :
    wpAny (model PySem.Challenge.rw_xo0031_01.row.prog w) A (exec (lawS w 14) (lawE w L)) (fun f s' => f = .next ∧ ∃ m' us k, Sat h₀ L m' ((St, lsN us k) :: X) o d s' ∧ IntsAre us st ∧ (∀ y, y ≠ Str.ofString "lead" → y ≠ Str.ofString "nanny" → m' y = m y)) F0 s := by
  have hh := R.hh
  have h221 : (hd.heap_1 w.params).lookup 221 = some _ := rfl
  unfold lawS lawB lawE
  rw [h221]
  dsimp only [fdOf, stmtsOf, envOf, newEnv]
  simp only [List.getD_cons_zero, List.getD_cons_succ]
  clear h221
  refine r_while (fun f s' => J15 h₀ L m o d X St st f s') fuel
    ⟨m, l, t0, Nw, x, [], 0, st, S, hlead, hnan, hst, hw, hl, hf, .nil, rfl, by simpa using hfu, fun _ _ _ => rfl⟩ ?_
  rintro fu s1 ⟨m1, l1, t1, N1, x1, us, k, rest, S1, q1, q2, q3, hw1, hl1, hf1, hi1, hr1, hfu1, hm1⟩
  obtain ⟨dx, fA, cA, T1, T2, ta, tb, vs, I1, hnt, hnorm, hT1, hT2, hvs, hlr⟩ := hw1.ex
  have hN : ∀ q ∈ N1, q ∈ N1 ++ (St, lsN us k) :: X := fun q hq => List.mem_append.mpr (.inl hq)
  have I1' : Inst (N1 ++ (St, lsN us k) :: X) x1 dx 181 .plain fA cA := I1.sub fun q hq _ => hN q hq
  (repeat (tb_start; (try dsimp only)))
  refine r_meth ?_ (by with_unfolding_all rfl) (by with_unfolding_all rfl) rfl
  (repeat (tb_start; (try dsimp only)))
  intro pl
  refine r_methA (fa := 143) S1 G.kin I1' hlr ?_ (by kernel_rfl) (by kernel_rfl) (by kernel_rfl)
  refine callWith_K0 (K := (hd.heap_1 w.params)) (G.kin.keeps S1.fr.keep) (by kernel_rfl) ?_
  dsimp only [List.append_nil]
  refine r_long (R.less (by decide)) S1 G I1' hnorm (hN _ hT1) (hN _ hT2) (by rw [ints_len hvs]; have := wsOf_len l1; omega) fun t2 s2 S2 => ?_
  (repeat (tb_start; (try dsimp only)))
  rename_i t3 s3 S3
  have hrun : (max ((vs.length : Int) - 1) ((wsOf l1).b : Nat)) = runF (wsOf l1) := by rw [ints_len hvs]; rfl
  rw [hrun]
  obtain ⟨fu', rfl⟩ : ∃ fu', fu = fu' + 1 := by
    cases fu with
    | zero => simp [strikeF] at hf1
    | succ n => exact ⟨n, rfl⟩
  rw [strikeF] at hf1
  split
  · rename_i h0
    have h0' : 0 < runF (wsOf l1) := by simpa using h0
    rw [if_pos h0'] at hf1
    obtain ⟨c0, cr, hcnt⟩ : ∃ c0 cr, (wsOf l1).cnt = c0 :: cr := by
      cases e : (wsOf l1).cnt with
      | nil => rw [e] at hf1; cases hf1
      | cons c0 cr => exact ⟨c0, cr, rfl⟩
    rw [hcnt] at hf1
    obtain ⟨rest', hf2, hrr⟩ := Option.map_eq_some_iff.mp hf1
    subst hrr
    have hStm : (St, lsN us k) ∈ N1 ++ (St, lsN us k) :: X := List.mem_append.mpr (.inr (.head _))
    obtain ⟨tc, hv0⟩ := ints_at' hvs (i := 0) (n := c0) (by rw [hcnt]; rfl)
    (repeat (tb_start; (try dsimp only)))
    refine r_lmeth PySem.F.slot_list_append PySem.F.type_list_append ?_ (by with_unfolding_all rfl) (by with_unfolding_all rfl) (by with_unfolding_all rfl) (by with_unfolding_all rfl) (by with_unfolding_all rfl)
    (repeat (tb_start; (try dsimp only)))
    refine ⟨St, us, k, rfl, S3.at hStm, ?_⟩
    (repeat (tb_start; (try dsimp only)))
    refine r_getA S3 G.kin I1' hnt (fun s4 S4 => ?_) (by kernel_rfl) (by kernel_rfl) (attr := none) (by kernel_rfl) (by kernel_rfl) rfl
    (repeat (tb_start; (try dsimp only)))
    refine r_getA S4 G.kin I1' hnorm (fun s5 S5 => ?_) (by kernel_rfl) (by kernel_rfl) (attr := none) (by kernel_rfl) (by kernel_rfl) rfl
    (repeat (tb_start; (try dsimp only)))
    rename_i t6 s6 S6
    refine kba_turn (value' := PySem.Expr.Name (PySem.Str.ofString "_") ⟨0, 0, 0, 0⟩) (fun _ => rfl) ?_
    refine r_item0 S6 (hN _ hT1) ?_ (by with_unfolding_all rfl) (by intro _; with_unfolding_all rfl)
    (repeat (tb_start; (try dsimp only)))
    rename_i t7 s7 S7
    refine kba_turn (value' := PySem.Expr.Name (PySem.Str.ofString "_") ⟨0, 0, 0, 0⟩) (fun _ => rfl) ?_
    refine PyProof.Rows.item_tupleL (l := vs) (j := 0) ⟨_, S7.at (hN _ hT2), rfl, 0, rfl⟩ (by decide) (by decide) (seqIdx0 _ (by rw [ints_len hvs, hcnt]; simp)) hv0 ?_ (by with_unfolding_all rfl) (by intro _; with_unfolding_all rfl)
    refine sub_int ?_
    (repeat (tb_start; (try dsimp only)))
    refine append_at (S7.at hStm) (fun h8 hs8 hD8 => ?_) (by rw [List.size_toArray, sizeLine_eq]; omega)
    have S8 := (S7.tk (s7.toks + 1)).chg hStm hs8 (hD8.trans (congrArg some (show _ = lsN (us ++ [.int ((wsOf l1).nt - c0) s7.toks]) (k + 1) by rw [List.push_toArray]))) (s7.toks + 1)
    rw [chg_mid S3] at S8
    dsimp only at S8 ⊢
    obtain ⟨s8, hs, htk⟩ : ∃ s8 : Shared, ({ s7 with heap := h8, toks := s7.toks + 1 } : Shared) = s8 ∧ s8.toks ≠ 0 := ⟨_, rfl, Nat.succ_ne_zero _⟩
    rw [hs] at S8 ⊢
    clear hs
    (repeat (tb_start; (try dsimp only)))
    with_reducible refine r_smeth PySem.F.slot_str_replace PySem.F.type_str_replace ?_ (by with_unfolding_all rfl) (by with_unfolding_all rfl) (by with_unfolding_all rfl) (by with_unfolding_all rfl) (by with_unfolding_all rfl)
    refine r_loc S8 q1 ?_ rfl (by with_unfolding_all rfl) (by decide)
    refine ⟨_, _, rfl, ?_⟩
    refine spliced_more ?_ (by with_unfolding_all rfl)
    refine wpAny_Constant_str ?_
    refine spliced_more ?_ (by with_unfolding_all rfl)
    refine wpAny_Constant_str ?_
    refine spliced_none ?_
    rw [lit_bt, lit_nil]
    refine SC.replace (show s8.toks ≠ 0 from htk) (Nat.succ_ne_zero _) (Nat.ne_of_lt (Nat.lt_succ_self _)) (by rw [T_beq]; decide) (by rw [T_length, T_length]; simp; omega) fun t9 k9 => ?_
    rw [repl_bt]
    have S9 := S8.tk k9
    (repeat (tb_start; (try dsimp only)))
    rename_i s10 S10
    refine r_kT lit_xb S10 ?_
    intro t11 s11 S11
    have hrl := remF_len l1
    refine r_addT S11 (by simp; omega) ?_
    intro t12 s12 S12
    (repeat (tb_start; (try dsimp only)))
    refine ⟨⟨_, _, _, _, _, S12⟩, ?_⟩
    refine r_ws (R.less (by decide)) S12 G (by simp; omega) fun x' dx' f' c' s13 N' T1' T2' ta' tb' vs' S13 I' hnt' hnorm' hT1' hT2' hi' hlr' => ?_
    (repeat (tb_start; (try dsimp only)))
    rename_i s14 S14
    have S15 := S14.subl (M' := N' ++ (St, lsN (us ++ [.int ((wsOf l1).nt - c0) s7.toks]) (k + 1)) :: X) (List.Sublist.append (List.Sublist.refl _) (List.sublist_append_right _ _))
    have hlt : us.length < st.length := by
      rcases Nat.lt_or_ge us.length st.length with h | h
      · exact h
      · rw [List.drop_eq_nil_of_le h] at hr1; cases hr1
    have hget : st[us.length]? = some ((wsOf l1).nt - c0) := by
      have := congrArg (fun z => z[0]?) hr1
      simpa using this
    refine ⟨fu', Nat.lt_succ_self _, _, remF l1, _, N', x', _, k + 1, rest', S15, by tb_rel, by tb_rel, by tb_rel, ⟨dx', f', c', T1', T2', ta', tb', vs', I', hnt', hnorm', hT1', hT2', hi', hlr'⟩, by omega, hf2, ?_, ?_, by simp; omega, fun y h1 h2 => ?_⟩
    · rw [List.length_append, List.length_singleton, take_step hget]
      exact ints_snoc hi1 _ _
    · rw [List.length_append, List.length_singleton, ← List.drop_drop, hr1]
      rfl
    · show (if y = Str.ofString "nanny" then _ else if y = Str.ofString "lead" then _ else m1 y) = m y
      rw [if_neg h2, if_neg h1]
      exact hm1 y h1 h2
  · rename_i h0
    have h0' : ¬ 0 < runF (wsOf l1) := by simpa using h0
    rw [if_neg h0'] at hf1
    have hr0 : rest = [] := (Option.some.inj hf1).symm
    subst hr0
    have hle : st.length ≤ us.length := by
      have := congrArg List.length hr1
      rw [List.length_drop] at this
      simp at this; omega
    rw [List.take_of_length_le hle] at hi1
    exact ⟨rfl, m1, us, k, S3.sub (fun q hq => List.mem_append.mpr (.inr hq)) (by
      have := S3.nd
      rw [List.map_append, List.nodup_append] at this
      exact this.2.1), hi1, hm1⟩

end
section
open PySem.Spec PySem.Calls
open PyProof.Rows.LCg (lst lst_snoc)
section
variable {prog : Program} {w : World} {A : Around} {E : Value → Shared → Prop} {s s' : Shared} {env : Env} {h₀ : Heap} {L : Addr} {m : Str → Option Value} {M N : List (Addr × Obj)} {o : OsState} {d : Drawn}

inductive BlkOnKU (prog : Program) (w : World) (A : Around) (elt target : Expr) (ifs : List Expr) (scope : Scope) (xk : Str) (cl : List (Str × Addr)) (env : Env) (y : Str) (Q : Flow → Shared → Prop) (xv : Value) (s₁ : Shared) : Prop
  | mk (h₀ : Heap) (m : Str → Option Value) (M : List (Addr × Obj)) (o : OsState) (d : Drawn) (n : Nat) (Pv : Nat → Value → Prop) (J : Addr → Nat → List Value → List (Addr × Obj) → Prop) (h1 : Sat h₀ env.locals m M o d s₁)
    (h2 : n ≤ 1000000)
    (h3 : Itb prog w A s₁.heap xv target n Pv)
    (h4 : (∀ c, J c 0 [] [(c, cellO)]))
    (h5 : (∀ c i ys news, J c i ys news → ys.length ≤ i))
    (h6 : (∀ c i v ys m₁ news I oI D C s₂, i < n → Pv i v → J c i ys news → Sat s₁.heap C m₁ ((I, oI) :: (D, lst ys) :: news) o d s₂ →
      wpAny (model prog w) A (assign target (compEnvC scope ((xk, c) :: cl) C env) v) (fun _ s₃ => wpAny (model prog w) A (testsOf ifs (compEnvC scope ((xk, c) :: cl) C env)) (fun ok s₄ =>
        if ok = true then wpAny (model prog w) A (eval elt (compEnvC scope ((xk, c) :: cl) C env)) (fun y s₅ => BlkEnd s₁.heap C o d I oI D ys (J c (i + 1) (ys ++ [y])) s₅) F0 s₄ else BlkEnd s₁.heap C o d I oI D ys (J c (i + 1) ys) s₄) F0 s₃) F0 s₂))
    (h7 : (∀ c D ys news s', J c n ys news → Sat h₀ env.locals (fun z => if z = y then some (.ref D) else m z) ((D, lst ys) :: news ++ M) o d s' → Q .next s')) : BlkOnKU prog w A elt target ifs scope xk cl env y Q xv s₁

theorem r_compKU {elt target iter : Expr} {ifs : List Expr} {scope : Scope} {cl : List (Str × Addr)} {xk : Str} {pos : Pos} {y : Str} {py spos : Pos} {Q : Flow → Shared → Prop}
    (hsw : swapsWith (.ListComp elt [⟨target, iter, ifs, 0⟩] scope pos) (some (.Name y py)) spos.line env = pure true) (hy : env.kindOf y = some .local) (hyp : (env.scope.kind == .class || (env.scope.kind == .module && env.locals != env.globals)) = false)
    (hclos : closureFor scope env = pure cl) (hcf : ∀ n, cellsFrom n scope.names cl = (xk, n) :: cl) (hpc : ∀ h, pushCells h scope.names = h.push cellO) (hkind : scope.kind = .function) (hnames : ∀ y ∈ scope.names, y.2 = .local → scope.names.lookup y.1 = some .local)
    (h : wpAny (model prog w) A (eval iter env) (BlkOnKU prog w A elt target ifs scope xk cl env y Q) E s)
    (hs : ∀ x, foldedSetIterable iter env x = pure x := by intro _; rfl) :
    wpAny (model prog w) A (exec (.Assign [.Name y py] (.ListComp elt [⟨target, iter, ifs, 0⟩] scope pos) spos) env) Q E s := by
  rw [exec_Assign_Name_used _ _ _ _ hsw]
  refine wpAny_bind (wpAny_standAt (wpAny_bind ?_))
  show wpAny _ A (do let _ ← comprehension (.ListComp elt [⟨target, iter, ifs, 0⟩] scope pos) scope env _ (newList []) false (eval iter env) (some (assign (.Name y py) env))) _ _ s
  refine wpAny_bind (wpAny_mono (wpAny_comprehension_free (use := some (assign (.Name y py) env)) (Q := fun _ s' => Q .next s') rfl hs hclos hkind hnames (wpAny_mono h (fun xv s₁ h₁ => ?_) fun _ _ e => e))
    (fun _ s' hq => wpAny_pure (wpAny_pure hq)) fun _ _ e => e)
  obtain ⟨h₀, mL, ML, o, d, n, Pv, J, SL, hn, hit, hj, hlen, turn, done⟩ := h₁
  have hgb := SL.gb
  obtain rfl := SL.os
  obtain rfl := SL.dr
  refine hit s₁ _ _ (fun _ _ e => e) fun ob fp St W hfree hfp hlive hgo st0 => ?_
  generalize hI : s₁.heap.objs.size = I at *
  generalize hH1 : s₁.heap.push ob = H1 at *
  have hH1s : H1.objs.size = I + 1 := by rw [← hH1, Heap.size_push, hI]
  refine wpAny_newObj_type ?_
  dsimp only
  generalize hH2 : H1.push { cls := .type "list", dict := none, data := .seq ([] : List Value).toArray } = H2
  have hC : H2.objs.size = I + 2 := by rw [← hH2, Heap.size_push, hH1s]
  simp only [newFunctionEnv, Option.isSome_some, if_true]
  refine wpAny_bind (wpAny_alloc ?_)
  refine wpAny_bind (wpAny_layCells _ (fun name kind cells => by cases hkc : kind == NameKind.cell <;> simp [hkc]) _ _ _ _ ?_)
  rw [hcf, hpc]
  refine wpAny_bind (wpAny_pure (wpAny_pure ?_))
  generalize hh₁ : (H2.push { cls := .type "dict", data := .dict #[] }).push cellO = h₁
  rw [show ({ s₁ with heap := H2.push { cls := .type "dict", data := .dict #[] } } : Shared).heap.objs.size = I + 3 by show (H2.push _).objs.size = _; rw [Heap.size_push, hC]]
  have hns₁ : h₁.Ns H2.objs.size (fun _ => none) := hh₁ ▸ (Heap.Ns.new H2 (.type "dict")).keeps fun b o e => Heap.get?_push_of_some _ e
  generalize hCg : H2.objs.size = C at *
  rw [hH1s]
  have hcell : h₁.get? (I + 3) = some cellO := by
    rw [← hh₁, show I + 3 = (H2.push { cls := .type "dict", data := .dict #[] }).objs.size by rw [Heap.size_push, hCg, hC]]
    exact Heap.get?_push_size _ rfl
  have below : ∀ b : Nat, b < I + 2 → b ≠ C := fun b hb e => by rw [e, hC] at hb; omega
  have hsI : s₁.heap.objs.size < I + 2 := by rw [hI]; omega
  have hsH : H1.objs.size < I + 2 := by rw [hH1s]; omega
  have old2 : ∀ b o, H1.get? b = some o → h₁.get? b = some o := fun b o e => hh₁ ▸ Heap.get?_push_of_some _ (Heap.get?_push_of_some _ (hH2 ▸ Heap.get?_push_of_some _ e))
  have old1 : ∀ b o, s₁.heap.get? b = some o → H1.get? b = some o := fun b o e => hH1 ▸ Heap.get?_push_of_some _ e
  have old : ∀ b o, s₁.heap.get? b = some o → h₁.get? b = some o := fun b o e => old2 b o (old1 b o e)
  have hacc : h₁.get? (I + 1) = some (lst []) := hh₁ ▸ Heap.get?_push_of_some _ (Heap.get?_push_of_some _ (by rw [← hH2, ← hH1s]; exact Heap.get?_push_size _ rfl))
  have fresh : ∀ a, I ≤ a → s₁.heap.get? a = none := fun a ha => by
    cases e : s₁.heap.get? a with
    | none => rfl
    | some o' => have : (a : Nat) < s₁.heap.objs.size := Heap.lt_size e; have ha' : (I : Nat) ≤ a := ha; omega
  have hCn : C = I + 2 := hC
  have start : Sat s₁.heap C _ [(I + 1, lst []), (I + 3, cellO)] s₁.os s₁.drawn { s₁ with heap := h₁ } :=
    ⟨⟨hns₁, old, by omega⟩, fun p hp => by
      rcases List.mem_cons.mp hp with rfl | hp
      · exact ⟨hacc, (by omega : I + 1 ≠ C), fresh _ (by omega)⟩
      · rw [List.mem_singleton.mp hp]
        exact ⟨hcell, (by omega : I + 3 ≠ C), fresh _ (by omega)⟩, by simp, hgb, rfl, rfl⟩
  have hIlive : h₁.get? I = some ob := old2 _ _ (by rw [← hH1, ← hI]; exact Heap.get?_push_size _ hfree)
  have loop : ∀ s₃ : Shared, s₃ = { s₁ with heap := h₁, toks := s₁.toks } →
      codeAny (model prog w) A (.compLoop (.ListComp elt [⟨target, iter, ifs, 0⟩] scope pos) 0 (.ref I) (.ref (I + 1)) (compEnvC scope ((xk, I + 3) :: cl) C env))
        (compPost (model prog w) A E (some (assign (.Name y py) env)) (fun _ s' => Q .next s') (.ref (I + 1)) C) s₃ := by
    rintro s₃ rfl
    refine codeAny_loop rfl
      (fun k s' => ∃ i ys m' news, i ≤ n ∧ k = n + 1 - i ∧ St i s'.heap ∧ Sat s₁.heap C m' ((I + 1, lst ys) :: news) s₁.os s₁.drawn s' ∧ (∀ p ∈ news, p.1 ≠ I) ∧ J (I + 3) i ys news) ?_ (n + 1)
      ⟨0, [], _, [(I + 3, cellO)], Nat.zero_le _, rfl, W.frame _ _ _ st0 fun b hb ob e => old2 b ob e, start, fun p hp => by rw [List.mem_singleton.mp hp]; exact (by omega : I + 3 ≠ I), hj _⟩
    rintro k s' ⟨i, ys, m', news, hi, rfl, hst', S', hoff', hJ⟩
    show wpAny _ A ((compTurn (.ListComp elt [⟨target, iter, ifs, 0⟩] scope pos) 0 (.ref I) (.ref (I + 1)) (compEnvC scope ((xk, I + 3) :: cl) C env)).onRaise (fun x => do noteFrame x (compEnvC scope ((xk, I + 3) :: cl) C env); theTreesLotGoes x)) _ _ s'
    refine wpAny_noted ?_
    rw [compTurn_list]
    refine wpAny_bind (wpAny_standAt (wpAny_bind ?_))
    have keepS : ∀ (h' : Heap) (tk : Nat), (∀ b o, b ∉ [I] → s'.heap.get? b = some o → h'.get? b = some o) → Sat s₁.heap C m' ((I + 1, lst ys) :: news) s₁.os s₁.drawn { s' with heap := h', toks := tk } := fun h' tk hk =>
      ⟨⟨S'.fr.ns.at' fun o e => hk _ o (fun h => by have := List.mem_singleton.mp h; omega) e, fun b o e => hk b o (fun h => by rw [List.mem_singleton.mp h, fresh I (Nat.le_refl _)] at e; cases e) (S'.fr.keep b o e), S'.fr.above⟩,
        fun p hp => ⟨hk _ _ (fun h => by
          rcases List.mem_cons.mp hp with rfl | hp
          · have h' : I + 1 = I := List.mem_singleton.mp h
            omega
          · exact hoff' p hp (List.mem_singleton.mp h)) (S'.nw p hp).1, (S'.nw p hp).2⟩, S'.nd, S'.gb, S'.os, S'.dr⟩
    by_cases hlt : i < n
    · refine W.item i s' _ _ hlt hst' fun v h' tk hP hst₁ hk => ?_
      have S₁ := keepS h' tk hk
      obtain ⟨oI, hoI⟩ := hlive _ _ hst₁
      have S₁' : Sat s₁.heap C m' ((I, oI) :: (I + 1, lst ys) :: news) s₁.os s₁.drawn { s' with heap := h', toks := tk } :=
        ⟨S₁.fr, fun p hp => (List.mem_cons.mp hp).elim (fun e => by subst e; exact ⟨hoI, (by omega : I ≠ C), fresh _ (Nat.le_refl _)⟩) (S₁.nw p), by
          rw [List.map_cons, List.nodup_cons]
          refine ⟨fun h => ?_, S₁.nd⟩
          obtain ⟨p, hp, e⟩ := List.mem_map.mp h
          rcases List.mem_cons.mp hp with rfl | hp
          · have e' : I + 1 = I := e
            omega
          · exact hoff' p hp e, S₁.gb, S₁.os, S₁.dr⟩
      refine wpAny_bind (hgo _ _ _ _ _ hst₁ (wpAny_bind ?_))
      -- the turn's end
      have fin : ∀ (s₆ : Shared) (ys' : List Value) (M₁ : List (Addr × Obj)) (m₂ : Str → Option Value), Sat s₁.heap C m₂ ((I, oI) :: (I + 1, lst ys') :: M₁) s₁.os s₁.drawn s₆ → J (I + 3) (i + 1) ys' M₁ →
          ∃ k', k' < n + 1 - i ∧ ∃ i' ys m' news, i' ≤ n ∧ k' = n + 1 - i' ∧ St i' s₆.heap ∧ Sat s₁.heap C m' ((I + 1, lst ys) :: news) s₁.os s₁.drawn s₆ ∧ (∀ p ∈ news, p.1 ≠ I) ∧ J (I + 3) i' ys news := by
        intro s₆ ys' M₁ m₂ S₆ hJ₆
        have S₆d : Sat s₁.heap C m₂ ((I + 1, lst ys') :: M₁) s₁.os s₁.drawn s₆ := S₆.sub (fun p hp => .tail _ hp) (List.nodup_cons.mp (by have h := S₆.nd; rwa [List.map_cons] at h)).2
        refine ⟨n + 1 - (i + 1), by omega, i + 1, ys', m₂, M₁, hlt, rfl, ?_, S₆d, fun p hp => ?_, hJ₆⟩
        · refine W.frame _ _ _ hst₁ fun b hb ob e => ?_
          rcases hfp _ hb with h | ⟨ob', h⟩
          · rw [h] at e ⊢
            rw [show ob = oI from Option.some.inj (e.symm.trans hoI)]
            exact (S₆.nw (I, oI) (.head _)).1
          · rw [show ob = ob' from Option.some.inj (e.symm.trans (S₁'.fr.keep _ _ h))]
            exact S₆.fr.keep _ _ h
        · exact S₆.off (pre := []) p (.tail _ hp)
      refine wpAny_mono (turn (I + 3) i v ys m' news I oI (I + 1) C _ hlt hP hJ S₁') (fun _ s₃ h₃ => wpAny_bind (wpAny_mono h₃ (fun ok s₄ h₄ => ?_) fun _ _ f => f.elim)) fun _ _ f => f.elim
      cases ok with
      | false =>
        rw [if_neg Bool.false_ne_true] at h₄
        obtain ⟨m₂, pre, news₂, S₅, hJ₅⟩ := h₄
        have S₅' : Sat s₁.heap C m₂ ((I, oI) :: (I + 1, lst ys) :: (pre ++ news₂)) s₁.os s₁.drawn s₄ := S₅.perm (by
          refine List.Perm.symm ?_
          exact (List.perm_middle).trans ((List.perm_middle).cons _))
        exact wpAny_pure ⟨rfl, fin _ _ _ _ S₅' hJ₅⟩
      | true =>
        rw [if_pos rfl] at h₄
        refine wpAny_bind (wpAny_bind (wpAny_mono h₄ (fun y s₅ h₅ => wpAny_bind ?_) fun _ _ f => f.elim))
        obtain ⟨m₂, pre, news₂, S₅, hJ₅⟩ := h₅
        have S₅' : Sat s₁.heap C m₂ ((I + 1, lst ys) :: (I, oI) :: (pre ++ news₂)) s₁.os s₁.drawn s₅ := S₅.perm (by
          refine List.Perm.symm ?_
          exact (List.perm_middle).trans (((List.perm_middle).cons _).trans (List.Perm.swap ..)))
        have hyl : ys.length ≤ i := hlen _ _ _ _ hJ
        refine app_at S₅' (.head _) (by omega) fun s₆ S₆ => ?_
        rw [chg_cons, chg_skip _ _ _ _ (show I ≠ I + 1 by omega)] at S₆
        have hch : chg (pre ++ news₂) (I + 1) (lst (ys ++ [y])) = pre ++ news₂ := by
          unfold chg
          conv => rhs; rw [← List.map_id (pre ++ news₂)]
          refine List.map_congr_left fun p hp => ?_
          have := S₅'.off (pre := []) p (.tail _ hp)
          simp [this]
        rw [hch] at S₆
        exact wpAny_pure (wpAny_pure ⟨rfl, fin _ _ _ _ (S₆.perm (List.Perm.swap ..)) hJ₅⟩)
    · have hin : i = n := by omega
      subst hin
      refine W.done s' _ _ hst' fun h' tk hk => ?_
      have S₁ := keepS h' tk hk
      refine wpAny_pure ?_
      have hCs : s₁.heap.get? C = none := fresh C (by rw [hCn]; exact Nat.le_add_right _ _)
      have hLC : env.locals ≠ C := by
        have h1 := SL.fr.ns.lt
        intro e
        obtain ⟨ob, _, _, ho, _⟩ := SL.fr.ns
        rw [e, hCs] at ho; cases ho
      obtain ⟨oC, esC, epC, hoC, hrC⟩ := id S₁.fr.ns
      have GG : Grow s₁ { s' with heap := h', toks := tk } ((I + 1, lst ys) :: news) := ⟨S₁.fr.keep, fun p hp => ⟨(S₁.nw p hp).1, (S₁.nw p hp).2.2⟩, S₁.nd, S₁.gb, S₁.os, S₁.dr⟩
      have SM := SL.grow GG
      refine wpAny_assign_Name (wpAny_storeName_local hy SM.fr.ns (fun h₂ hn₂ hs₂ => ?_) hyp)
      have SN : Sat h₀ env.locals _ ((I + 1, lst ys) :: news ++ ML) s₁.os s₁.drawn { s' with heap := h₂, toks := tk + 1 } := ⟨SM.fr.set hn₂ hs₂, SM.nw.set hs₂, SM.nd, SM.gb, SM.os, SM.dr⟩
      refine ⟨m', S₁.fr.ns.sameBut hs₂ (Ne.symm hLC), fun h₃ hs₃ => ?_⟩
      refine done _ _ _ _ _ hJ ⟨⟨SN.fr.ns.sameBut hs₃ hLC, fun b ob e => (hs₃.2 b (fun q => ?_)).trans (SN.fr.keep b ob e), SN.fr.above⟩, fun p hp => ⟨(hs₃.2 _ (fun q => ?_)).trans (SN.nw p hp).1, (SN.nw p hp).2⟩, SN.nd, SN.gb, SN.os, SN.dr⟩
      · have := SL.fr.keep b ob e
        rw [q, hCs] at this; cases this
      · rcases List.mem_append.mp hp with hp | hp
        · exact (S₁.nw p hp).2.1 q
        · have := (SL.nw p hp).1
          rw [q, hCs] at this; cases this
  refine codeAny_compStart_list (loop _ rfl) (W.self 0 _ _ _ ?_ (loop _ rfl))
  exact W.frame _ _ _ st0 fun b hb ob e => old2 b ob e
end

end
section
open PySem.Spec PySem.Calls
open PyProof.Rows.LCg (lst lst_snoc)
noncomputable def overF (k : Nat) (hs : List (Int × Int)) : List Int := (hs.filter fun p => decide ((k : Int) < p.1)).map (·.1)
noncomputable def cntsF (hs : List (Int × Int)) : List Int := (List.range 8).map fun k => ((overF k hs).length : Int)
theorem overF_step {k : Nat} {hs : List (Int × Int)} {i : Nat} {p : Int × Int} (h : hs[i]? = some p) : overF k (hs.take (i + 1)) = overF k (hs.take i) ++ (if (k : Int) < p.1 then [p.1] else []) := by
  unfold overF
  rw [take_step h, List.filter_append, List.map_append]
  by_cases hp : (k : Int) < p.1 <;> simp [hp]
set_option maxHeartbeats 4000000 in
theorem law_16 {w : World} {A : Around} {s : Shared} {h₀ : Heap} {L : Addr} {m : Str → Option Value} {M : List (Addr × Obj)} {o : OsState} {d : Drawn} {mean : ExcName → Option Value} {mg mb : Str → Option Value} {c3 : Obj} {Hp : Addr} {hs : List (Int × Int)} (R : Room A 12) (S : Sat h₀ L m M o d s) (G : Gl w mean mg mb h₀) (hc3 : (L + 1 + 1 + 1, c3) ∈ M) (h3 : c3.data = .cell (some (.ref Hp))) (hH : HpAt M Hp hs) (hsz : hs.length ≤ 1000) :
    wpAny (model PySem.Challenge.rw_xo0031_01.row.prog w) A (exec (lawS w 15) (lawE w L)) (fun f s' => f = .next ∧ ∃ D us k, Sat h₀ L (fun y => if y = Str.ofString "counts" then some (.ref D) else m y) ((D, lsN us k) :: M) o d s' ∧ IntsAre us (cntsF hs)) F0 s := by
  have hh := R.hh
  obtain ⟨vs, e, hmH, hPr⟩ := hH.ex
  have hvl := hPr.len
  have h221 : (hd.heap_1 w.params).lookup 221 = some _ := rfl
  unfold lawS lawB lawE
  rw [h221]
  dsimp only [fdOf, stmtsOf, envOf, newEnv]
  simp only [List.getD_cons_zero, List.getD_cons_succ]
  clear h221
  refine r_compKU (cl := [(Str.ofString "heaps", L + 1 + 1 + 1)]) (xk := Str.ofString "k") (by with_unfolding_all rfl) (by with_unfolding_all rfl) (by with_unfolding_all rfl) (by with_unfolding_all rfl) (by intro _; with_unfolding_all rfl) (by intro _; with_unfolding_all rfl) rfl (by decide) ?_ (by intro _; with_unfolding_all rfl)
  (repeat (tb_start; (try dsimp only)))
  rename_i r t1 t2 t3 s3 S3
  have cH : s3.heap.IsCell (L + 1 + 1 + 1) (some (.ref Hp)) := ⟨c3, S3.at (.tail _ hc3), h3⟩
  have G3 := G.at S3
  refine ⟨h₀, m, _, o, d, 8, _, (fun c i ys news => ∃ oc v, news = [(c, oc)] ∧ oc.data = .cell v ∧ IntsAre ys ((cntsF hs).take i)), S3, by omega, itb_range hh (S3.at (.head _)) (by decide) (by decide), fun c => ⟨_, none, rfl, rfl, by simpa using IntsAre.nil⟩, ?_, ?_, ?_⟩
  · rintro c i ys news ⟨oc, v, -, -, h⟩
    have := ints_len h
    rw [List.length_take] at this
    omega
  · rintro c i v ys m₁ news I oI D C sa hi ⟨tv, rfl⟩ ⟨oc, v0, rfl, hoc, hI⟩ Sa
    have Sa' : Sat s3.heap C m₁ ([(I, oI), (D, lst ys)] ++ (c, oc) :: []) o d sa := Sa
    refine wpAny_assign_Name (chg_cellM Sa' (List.mem_append.mpr (.inr (.head _))) hoc rfl (by with_unfolding_all rfl) (by with_unfolding_all rfl) fun oc' sb hoc' Sb => ?_)
    rw [chg_mid Sa'] at Sb
    have e0 : (0 : Int) + (i : Nat) * 1 = (i : Nat) := by omega
    rw [e0] at hoc'
    (repeat (tb_start; (try dsimp only)))
    refine r_comp (cl := [(Str.ofString "k", c)]) (by with_unfolding_all rfl) (by decide) rfl (by decide) ?_ (by intro _; with_unfolding_all rfl)
    (repeat (tb_start; (try dsimp only)))
    have ck : sb.heap.IsCell c (some (.int (i : Nat) tv)) := ⟨oc', Sb.at (List.mem_append.mpr (.inr (.head _))), hoc'⟩
    have kp : ∀ b ob, s3.heap.get? b = some ob → sb.heap.get? b = some ob := Sb.fr.keep
    have hin : ∀ q ∈ M, sb.heap.get? q.1 = some q.2 := fun q hq => kp _ _ (S3.at (.tail _ hq))
    refine ⟨o, d, vs.length, _, (fun i2 ys news => news = [] ∧ IntsAre ys (overF i (hs.take i2))), Sb.gb, Sb.os, Sb.dr, by omega, itb_list hh ⟨_, hin _ hmH, rfl, _, rfl⟩, ⟨rfl, by simpa [overF] using IntsAre.nil⟩, ?_, ?_, ?_⟩
    · rintro i2 ys2 news2 ⟨-, h⟩
      have h1 := ints_len h
      unfold overF at h1
      rw [List.length_map] at h1
      have h2 := List.length_filter_le (fun p : Int × Int => decide (((i : Nat) : Int) < p.1)) (hs.take i2)
      rw [List.length_take] at h2
      omega
    · rintro i2 v2 ys2 m₂ news2 I2 oI2 D2 C2 sc hi2 hv2 ⟨rfl, hI2⟩ Sc
      obtain ⟨p, hp, T', ta, tb', rfl, hT⟩ := hPr.nth i2 v2 hv2
      refine r_asgP hh Sc ⟨_, Sc.fr.keep _ _ (hin _ hT), rfl, 0, rfl⟩ ?_ (by with_unfolding_all rfl) (by with_unfolding_all rfl) (by with_unfolding_all rfl)
      intro sd Sd
      (repeat (tb_start; (try dsimp only)))
      split
      · rename_i h1
        have h1' : ((i : Nat) : Int) < p.1 := by simpa using h1
        (repeat (tb_start; (try dsimp only)))
        refine ⟨_, [], _, by assumption, rfl, ?_⟩
        rw [overF_step hp, if_pos h1']
        exact ints_snoc hI2 _ _
      · rename_i h1
        have h1' : ¬ ((i : Nat) : Int) < p.1 := by simpa using h1
        refine ⟨_, [], _, by assumption, rfl, ?_⟩
        rw [overF_step hp, if_neg h1', List.append_nil]
        exact hI2
    · rintro D2 ys2 news2 sc ⟨rfl, hI2⟩ Gc
      rw [hvl, List.take_length] at hI2
      have Sc := Sb.grow Gc
      (repeat (tb_start; (try dsimp only)))
      refine r_lenL Sc ⟨_, Sc.at (.head _), rfl, _, rfl⟩ ?_ fun t5 sd Sd => ?_
      · have h1 := ints_len hI2
        unfold overF at h1
        rw [List.length_map] at h1
        have h2 := List.length_filter_le (fun p : Int × Int => decide (((i : Nat) : Int) < p.1)) hs
        omega
      have hk : (cntsF hs)[i]? = some ((overF i hs).length : Int) := by
        unfold cntsF
        rw [List.getElem?_map, List.getElem?_range hi]; rfl
      refine ⟨_, [], [(c, oc')], Sd.sub (fun q hq => .tail _ hq) ?_, oc', _, rfl, hoc', ?_⟩
      · have := Sd.nd
        rw [show [(D2, lst ys2)] ++ ([(I, oI), (D, lst ys)] ++ [(c, oc')]) = (D2, lst ys2) :: ([] ++ (I, oI) :: (D, lst ys) :: [(c, oc')]) from rfl, List.map_cons, List.nodup_cons] at this
        exact this.2
      · rw [take_step hk, ints_len hI2]
        exact ints_snoc hI _ _
  · rintro c D ys news s' ⟨oc, v0, rfl, hoc, hI⟩ S5
    have hl8 : (cntsF hs).length = 8 := by simp [cntsF]
    rw [← hl8, List.take_length] at hI
    refine ⟨rfl, D, ys, _, S5.sub (M' := (D, lst ys) :: M) (fun q hq => ?_) ?_, hI⟩
    · rcases List.mem_cons.mp hq with rfl | hq
      · exact .head _
      · exact .tail _ (.tail _ (.tail _ hq))
    · have := S5.nd
      simp only [List.cons_append, List.nil_append, List.map_cons, List.nodup_cons, List.mem_cons, not_or] at this
      rw [List.map_cons, List.nodup_cons]
      exact ⟨this.1.2.2, this.2.2.2⟩

end
section
open PySem.Spec PySem.Calls
open PyProof.Rows.LCg (lst lst_snoc)
noncomputable def posF (ns : List Int) : List Int := ns.filter fun c => decide (0 < c)
theorem posF_step {ns : List Int} {i : Nat} {c : Int} (h : ns[i]? = some c) : posF (ns.take (i + 1)) = posF (ns.take i) ++ (if 0 < c then [c] else []) := by
  unfold posF
  rw [take_step h, List.filter_append]
  by_cases hp : 0 < c <;> simp [hp]
set_option maxHeartbeats 4000000 in
theorem law_17 {w : World} {A : Around} {s : Shared} {h₀ : Heap} {L : Addr} {m : Str → Option Value} {M : List (Addr × Obj)} {o : OsState} {d : Drawn} {mean : ExcName → Option Value} {mg mb : Str → Option Value} {St Ct : Addr} {us cs : List Value} {ku kc : Nat} {st cn : List Int} (R : Room A 12) (S : Sat h₀ L m M o d s) (hSt : (St, lsN us ku) ∈ M) (hCt : (Ct, lsN cs kc) ∈ M) (hm1 : m (Str.ofString "struck") = some (.ref St)) (hm2 : m (Str.ofString "counts") = some (.ref Ct))
    (hi1 : IntsAre us st) (hi2 : IntsAre cs cn) (hz : cn.length ≤ 1000) (he : st = posF cn) :
    wpAny (model PySem.Challenge.rw_xo0031_01.row.prog w) A (exec (lawS w 16) (lawE w L)) (fun f s' => f = .next ∧ Sat h₀ L m M o d s') F0 s := by
  have hh := R.hh
  have hu : A.units + 20 < cLine := by have := R.uni; omega
  have hcl : cs.length = cn.length := ints_len hi2
  have h221 : (hd.heap_1 w.params).lookup 221 = some _ := rfl
  unfold lawS lawB lawE
  rw [h221]
  dsimp only [fdOf, stmtsOf, envOf, newEnv]
  simp only [List.getD_cons_zero, List.getD_cons_succ]
  clear h221
  (repeat (tb_start; (try dsimp only)))
  refine r_comp (cl := []) (by with_unfolding_all rfl) (by decide) rfl (by decide) ?_ (by intro _; with_unfolding_all rfl)
  (repeat (tb_start; (try dsimp only)))
  refine ⟨o, d, cs.length, _, (fun i ys news => news = [] ∧ IntsAre ys (posF (cn.take i))), S.gb, S.os, S.dr, by omega, itb_list hh ⟨_, S.at hCt, rfl, _, rfl⟩, ⟨rfl, by simpa [posF] using IntsAre.nil⟩, ?_, ?_, ?_⟩
  · rintro i ys news ⟨-, h⟩
    have h1 := ints_len h
    have h2 := List.length_filter_le (fun c : Int => decide (0 < c)) (cn.take i)
    rw [List.length_take] at h2
    unfold posF at h1
    omega
  · rintro i v ys m₁ news I oI D C s3 hi hv ⟨rfl, hI⟩ S3
    obtain ⟨x, tx, rfl, hx⟩ := ints_at hi2 hv
    refine r_asgN S3 ?_ (by with_unfolding_all rfl) (by with_unfolding_all rfl)
    intro s3' S3'
    (repeat (tb_start; (try dsimp only)))
    rename_i t4 s4 S4
    split
    · rename_i h1
      have h1' : 0 < x := by simpa using h1
      (repeat (tb_start; (try dsimp only)))
      refine ⟨_, [], _, S4, rfl, ?_⟩
      rw [posF_step hx, if_pos h1']
      exact ints_snoc hI _ _
    · rename_i h1
      have h1' : ¬ 0 < x := by simpa using h1
      refine ⟨_, [], _, S4, rfl, ?_⟩
      rw [posF_step hx, if_neg h1', List.append_nil]
      exact hI
  · rintro D ys news s' ⟨rfl, hI⟩ G'
    rw [hcl, List.take_length] at hI
    have S5 := S.grow G'
    (repeat (tb_start; (try dsimp only)))
    refine r_neInts hu S5 (.tail _ hSt) (.head _) hi1 hI ?_
    rw [decide_eq_true he]
    (repeat (tb_start; (try dsimp only)))
    rw [if_neg (by decide)]
    (repeat (tb_start; (try dsimp only)))
    exact ⟨rfl, S5.sub (fun q hq => .tail _ hq) S.nd⟩
set_option maxHeartbeats 4000000 in
theorem law_18 {w : World} {A : Around} {s : Shared} {h₀ : Heap} {L : Addr} {m : Str → Option Value} {M : List (Addr × Obj)} {o : OsState} {d : Drawn} {mean : ExcName → Option Value} {mg mb : Str → Option Value} {l : List Nat} {t0 : Tok} (R : Room A 12) (S : Sat h₀ L m M o d s) (G : Gl w mean mg mb h₀) (hrow : m (Str.ofString "row") = some (.str (T l) t0)) (hl : l.length ≤ 60) (h1 : 1 ≤ l.length) (h256 : ∀ c ∈ l, c < 256) :
    wpC (model PySem.Challenge.rw_xo0031_01.row.prog w) A (exec (lawS w 17) (lawE w L)) (fun f s' => f = .next ∧ ∃ t, Sat h₀ L (fun y => if y = Str.ofString "back" then some (.str (T l.reverse) t) else m y) M o d s') F0 s := by
  have hh := R.hh
  have h221 : (hd.heap_1 w.params).lookup 221 = some _ := rfl
  unfold lawS lawB lawE
  rw [h221]
  dsimp only [fdOf, stmtsOf, envOf, newEnv]
  simp only [List.getD_cons_zero, List.getD_cons_succ]
  clear h221
  refine wpC_Assign_Name ?_ (by with_unfolding_all rfl)
  refine wpC_Call_Name ?_
  (repeat (tb_start; (try dsimp only)))
  refine wpC_callWith_def (K := (hd.heap_1 w.params)) (by kernel_rfl) ?_ (by with_unfolding_all rfl) (by with_unfolding_all rfl)
  (repeat (tb_start; (try dsimp only)))
  refine ⟨(G.at S).kin, ?_⟩
  refine about_ok w l t0 (by omega) h1 h256 A s mean mg mb _ _ (R.less (by omega)) (G.at S) S.gb trivial ?_
  rintro v s8 ⟨⟨t8, rfl⟩, X⟩
  have S8 := S.ext X
  (repeat (tb_start; (try dsimp only)))
  rename_i s9 S9
  exact ⟨rfl, t8, S9⟩

end
section
open PySem.Spec PySem.Calls
noncomputable def shortF : List Int → List Nat → Bool
  | [], _ => true
  | r :: rms, l => decide ((ledF r.toNat l []).length ≤ 100) && shortF rms (ledF r.toNat l [])
inductive J19 (L : Addr) (N : List (Addr × Obj)) (c1 c3 : Obj) (Rm : Addr) (rs : List Value) (nR : Nat) (bl l : List Nat) (tb : Tok) (rms : List Int) (i : Nat) (m : Str → Option Value) (M : List (Addr × Obj)) : Prop
  | mk (c2' : Obj) (ps' : Array Value) (v2' : Option Value) (t' : Tok) (li : List Nat) (h1 : M = N ++ (Rm, lsN rs nR) :: C4 L c1 c2' c3 ps') (h2 : TriplesOk ps'.toList) (h3 : c2'.data = .cell v2') (h4 : m (Str.ofString "rooms") = some (.ref Rm)) (h5 : m (Str.ofString "begin") = some (.str (T bl) tb))
    (h6 : m (Str.ofString "back") = some (.str (T li) t')) (h7 : li.length ≤ 100) (h8 : shortF (rms.drop i) li = true) (h9 : ledAll (rms.drop i) li = ledAll rms l) : J19 L N c1 c3 Rm rs nR bl l tb rms i m M
set_option maxHeartbeats 4000000 in
theorem law_19 {w : World} {A : Around} {s : Shared} {h₀ : Heap} {L : Addr} {m : Str → Option Value} {M : List (Addr × Obj)} {o : OsState} {d : Drawn} {mean : ExcName → Option Value} {mg mb : Str → Option Value} {c1 c2 c3 : Obj} {ps : Array Value} {tb t0 : Tok} {l bl : List Nat} {N : List (Addr × Obj)} {Rm : Addr} {rs : List Value} {nR : Nat} {rms : List Int} {v2 : Option Value}
    (R : Room A 12) (S : Sat h₀ L m (N ++ (Rm, lsN rs nR) :: C4 L c1 c2 c3 ps) o d s) (G : Gl w mean mg mb h₀) (ht : TriplesOk ps.toList) (h2 : c2.data = .cell v2)
    (hr : m (Str.ofString "rooms") = some (.ref Rm)) (hb : m (Str.ofString "begin") = some (.str (T bl) tb)) (hback : m (Str.ofString "back") = some (.str (T l) t0)) (hi : IntsAre rs rms) (hrm : ∀ r ∈ rms, 1 ≤ r ∧ r ≤ 9) (hl : l.length ≤ 100) (hg : shortF rms l = true) :
    wpAny (model PySem.Challenge.rw_xo0031_01.row.prog w) A (exec (lawS w 18) (lawE w L)) (fun f s' => f = .next ∧ ∃ m' M' t' ps', Sat h₀ L m' M' o d s' ∧ (63, tabObj ps') ∈ M' ∧ m' (Str.ofString "begin") = some (.str (T bl) tb) ∧ m' (Str.ofString "back") = some (.str (T (ledAll rms l)) t') ∧ (ledAll rms l).length ≤ 100) F0 s := by
  have hh := R.hh
  have h221 : (hd.heap_1 w.params).lookup 221 = some _ := rfl
  unfold lawS lawB lawE
  rw [h221]
  dsimp only [fdOf, stmtsOf, envOf, newEnv]
  simp only [List.getD_cons_zero, List.getD_cons_succ]
  clear h221
  refine r_forG ?_ (by intro _; with_unfolding_all rfl)
  (repeat (tb_start; (try dsimp only)))
  have hRm : (Rm, lsN rs nR) ∈ N ++ (Rm, lsN rs nR) :: C4 L c1 c2 c3 ps := List.mem_append.mpr (.inr (.head _))
  refine r_iterLG hh S [(Rm, lsN rs nR)] ⟨_, S.at hRm, rfl, _, rfl⟩ (.inl ⟨_, .head _⟩)
    (fun i m M => J19 L N c1 c3 Rm rs nR bl l tb rms i m M)
    (fun j m M hJ p hp => by
      obtain ⟨c2', ps', v2', t', li, rfl⟩ := hJ
      rw [List.mem_singleton.mp hp]; exact List.mem_append.mpr (.inr (.head _)))
    ⟨c2, ps, v2, t0, l, rfl, ht, h2, hr, hb, hback, hl, hg, rfl⟩ ?_ ?_
  · rintro i v m₁ M₁ I oI s1 hv hK ⟨c2', ps', v2', t', li, rfl, ht', h2', mr, mb', mrow, hli, hgi, hled⟩ S1
    obtain ⟨r, tr, rfl, hri⟩ := ints_at hi hv
    have hdr : rms.drop i = r :: rms.drop (i + 1) := by
      have hil : i < rms.length := by
        rcases Nat.lt_or_ge i rms.length with h | h
        · exact h
        · rw [List.getElem?_eq_none h] at hri; cases hri
      rw [List.drop_eq_getElem_cons hil]
      rw [List.getElem?_eq_getElem hil] at hri
      rw [Option.some.inj hri]
    rw [hdr] at hgi hled
    simp only [shortF, Bool.and_eq_true, decide_eq_true_eq] at hgi
    obtain ⟨g1, g4⟩ := hgi
    obtain ⟨hr1, hr9⟩ := hrm r (List.mem_of_getElem? hri)
    have S1' : Sat h₀ L m₁ (((I, oI) :: N ++ [(Rm, lsN rs nR), (L + 1, c1)]) ++ (L + 1 + 1, c2') :: [(L + 1 + 1 + 1, c3), (63, tabObj ps')]) o d s1 := by simpa [List.append_assoc] using S1
    refine wpAny_assign_Name (chg_cellM S1' (List.mem_append.mpr (.inr (.head _))) h2' rfl (by with_unfolding_all rfl) (by with_unfolding_all rfl) fun c2'' s2 h2'' S2 => ?_)
    rw [chg_mid S1'] at S2
    (repeat (tb_start; (try dsimp only)))
    refine r_celM (by with_unfolding_all rfl) S2 (List.mem_append.mpr (.inr (.head _))) h2'' ?_ (by with_unfolding_all rfl) rfl (by decide)
    (repeat (tb_start; (try dsimp only)))
    refine ⟨⟨_, _, _, _, _, S2⟩, ?_⟩
    have er : r = ((r.toNat : Nat) : Int) := by omega
    rw [er]
    have S2' : Sat h₀ L m₁ ((63, tabObj ps') :: (((I, oI) :: N ++ [(Rm, lsN rs nR), (L + 1, c1)]) ++ (L + 1 + 1, c2'') :: [(L + 1 + 1 + 1, c3)])) o d s2 := S2.perm (by
      have := List.perm_append_comm (l₁ := [(63, tabObj ps')]) (l₂ := (((I, oI) :: N ++ [(Rm, lsN rs nR), (L + 1, c1)]) ++ (L + 1 + 1, c2'') :: [(L + 1 + 1 + 1, c3)]))
      simpa [List.append_assoc] using this)
    refine r_led (R.less (by decide)) S2' G ht' (by omega) (by omega) fun t3 ps3 s3 S3 ht3 => ?_
    (repeat (tb_start; (try dsimp only)))
    rename_i s4 S4
    have S5 : Sat h₀ L _ ([] ++ (I, oI) :: (N ++ (Rm, lsN rs nR) :: C4 L c1 c2'' c3 ps3)) o d s4 := S4.perm (by
      have := List.perm_append_comm (l₁ := (((I, oI) :: N ++ [(Rm, lsN rs nR), (L + 1, c1)]) ++ (L + 1 + 1, c2'') :: [(L + 1 + 1 + 1, c3)])) (l₂ := [(63, tabObj ps3)])
      simpa [List.append_assoc] using this)
    exact ⟨_, [], _, S5, c2'', ps3, _, t3, _, rfl, ht3, h2'', by tb_rel, by tb_rel, by tb_rel, g1, g4, hled⟩
  · rintro m₁ M₁ s1 ⟨c2', ps', v2', t', li, rfl, ht', h2', mr, mb', mrow, hli, hgi, hled⟩ S1
    have hvl : rs.length = rms.length := ints_len hi
    rw [hvl, List.drop_length] at hled
    simp only [ledAll] at hled
    subst hled
    exact ⟨rfl, m₁, _, t', ps', S1, by simp, mb', mrow, hli⟩
set_option maxHeartbeats 4000000 in
theorem law_20 {w : World} {A : Around} {s : Shared} {h₀ : Heap} {L : Addr} {m : Str → Option Value} {M : List (Addr × Obj)} {o : OsState} {d : Drawn} {mean : ExcName → Option Value} {mg mb : Str → Option Value} {l bl : List Nat} {t0 tb : Tok} (R : Room A 12) (S : Sat h₀ L m M o d s) (G : Gl w mean mg mb h₀) (hb : m (Str.ofString "begin") = some (.str (T bl) tb)) (hback : m (Str.ofString "back") = some (.str (T l) t0)) (hl : l.length ≤ 100) (hbl : bl.length ≤ 100) (h1 : 1 ≤ bl.length) (h256 : ∀ c ∈ bl, c < 256)
    (he : stripF l l.length = bl.reverse) :
    wpC (model PySem.Challenge.rw_xo0031_01.row.prog w) A (exec (lawS w 19) (lawE w L)) (fun f s' => f = .ret (.bool true) ∧ Sat h₀ L m M o d s') F0 s := by
  have hh := R.hh
  have hl' : l.length ≤ 1000 := by omega
  have h221 : (hd.heap_1 w.params).lookup 221 = some _ := rfl
  unfold lawS lawB lawE
  rw [h221]
  dsimp only [fdOf, stmtsOf, envOf, newEnv]
  simp only [List.getD_cons_zero, List.getD_cons_succ]
  clear h221
  refine wpC_Return_some ?_
  refine wpC_Compare1 ?_ (by with_unfolding_all rfl)
  (repeat (tb_start; (try dsimp only)))
  rename_i t1 s1 S1
  refine ⟨⟨_, _, _, _, _, S1⟩, ?_⟩
  refine strip_ok w l t0 l.length _ (by omega) (Nat.le_refl _) A s1 mean mg mb _ _ hh (by have := R.dep; omega) (by have := R.uni; omega) (G.at S1) S1.gb ?_
  rintro v sv ⟨tv, rfl⟩ X
  have Sv := S1.ext X
  refine wpC_Call_Name ?_
  (repeat (tb_start; (try dsimp only)))
  refine wpC_callWith_def (K := (hd.heap_1 w.params)) (by kernel_rfl) ?_ (by with_unfolding_all rfl) (by with_unfolding_all rfl)
  (repeat (tb_start; (try dsimp only)))
  refine ⟨(G.at Sv).kin, ?_⟩
  refine about_ok w bl tb (by omega) h1 h256 A sv mean mg mb _ _ (R.less (by omega)) (G.at Sv) Sv.gb trivial ?_
  rintro v s8 ⟨⟨t8, rfl⟩, X⟩
  have S8 := Sv.ext X
  refine r_eqT ?_
  rw [decide_eq_true he]
  exact ⟨rfl, S8⟩

end
section
open PySem.Spec PySem.Calls
/-- what the law asks, of a row and the rooms -/
noncomputable def okF (b : List Nat) (rms : List Int) : Bool :=
  decide (1 ≤ b.length) && decide (b.length ≤ 60) && decide ((rawF b 0 []).length ≤ 4) && b.all (fun c => decide (c < 256)) && decide ((heapsF b).length ≤ 1000) && goodF rms b (heapsF b) &&
  (decide (1 ≤ (ledAll rms b).length) && decide ((ledAll rms b).length ≤ 60) && (ledAll rms b).all (fun c => decide (c < 256))) &&
  decide (strikeF 20 (leadF (ledAll rms b)) = some (posF (cntsF (hsAll rms (heapsF b))))) &&
  shortF rms (ledAll rms b).reverse && decide (stripF (ledAll rms (ledAll rms b).reverse) (ledAll rms (ledAll rms b).reverse).length = b.reverse)
theorem hsAll_len : ∀ (rms : List Int) (hs : List (Int × Int)), (hsAll rms hs).length = hs.length
  | [], _ => rfl
  | r :: rms, hs => by rw [hsAll, hsAll_len rms, hsStep, List.length_map]
theorem leadF_len (l : List Nat) : (leadF l).length ≤ 2 * l.length := by
  unfold leadF
  have := cntF_le 111 l
  rw [List.length_append, List.length_map, List.length_replicate]
  omega
section
variable {w : World} {A : Around} {s : Shared} {L : Addr} {Q : Flow → Shared → Prop}
theorem law_next {i : Nat} (hi : i < 20) (h : wpC (model PySem.Challenge.rw_xo0031_01.row.prog w) A (exec (lawS w i) (lawE w L)) (fun f s' => match f with | .next => wpC (model PySem.Challenge.rw_xo0031_01.row.prog w) A (execs ((lawB w).drop (i + 1)) (lawE w L)) Q F0 s' | f => Q f s') F0 s) :
    wpC (model PySem.Challenge.rw_xo0031_01.row.prog w) A (execs ((lawB w).drop i) (lawE w L)) Q F0 s := by
  have hl : i < (lawB w).length := by rw [law_len]; exact hi
  have e : (lawB w).drop i = lawS w i :: (lawB w).drop (i + 1) := by
    rw [List.drop_eq_getElem_cons hl]
    unfold lawS
    rw [List.getD_eq_getElem?_getD, List.getElem?_eq_getElem hl]; rfl
  rw [e]
  exact wpC_execs_cons h
theorem law_step {i : Nat} (hi : i < 20) {P : Shared → Prop} (h : wpAny (model PySem.Challenge.rw_xo0031_01.row.prog w) A (exec (lawS w i) (lawE w L)) (fun f s' => f = .next ∧ P s') F0 s)
    (k : ∀ s', P s' → wpC (model PySem.Challenge.rw_xo0031_01.row.prog w) A (execs ((lawB w).drop (i + 1)) (lawE w L)) Q F0 s') : wpC (model PySem.Challenge.rw_xo0031_01.row.prog w) A (execs ((lawB w).drop i) (lawE w L)) Q F0 s :=
  law_next hi (wpC_of (wpAny_mono h (fun f s' h' => by obtain ⟨rfl, p⟩ := h'; exact k s' p) fun _ _ e => e))
end
set_option maxHeartbeats 4000000 in
theorem law_all {w : World} {A : Around} {s : Shared} {h₀ : Heap} {L : Addr} {m : Str → Option Value} {M : List (Addr × Obj)} {o : OsState} {d : Drawn} {mean : ExcName → Option Value} {mg mb : Str → Option Value} {c1 c2 c3 : Obj} {ps : Array Value} {v1 v2 v3 : Option Value} {sc : Addr} {vs : List Value} {ns : List Int} (R : Room A 12) (S : Sat h₀ L m (C4 L c1 c2 c3 ps) o d s) (G : Gl w mean mg mb h₀) (ht : TriplesOk ps.toList)
    (h1 : c1.data = .cell v1) (h2 : c2.data = .cell v2) (h3 : c3.data = .cell v3) (hm : m (Str.ofString "script") = some (.ref sc)) (hsc : h₀.IsList sc vs.toArray) (hi : IntsAre vs ns) (hz : vs.length ≤ 63)
    {n : Nat} (hn : 1645 + sumGo 0 (ns.take 12) = (n : Nat)) (hok : okF (begF n) (roomsN n) = true) :
    wpC (model PySem.Challenge.rw_xo0031_01.row.prog w) A (execs ((lawB w).drop 0) (lawE w L)) (fun f s' => f = .ret (.bool true) ∧ ∃ m' M' ps', Sat h₀ L m' M' o d s' ∧ (63, tabObj ps') ∈ M') F0 s := by
  simp only [okF, Bool.and_eq_true, decide_eq_true_eq, List.all_eq_true] at hok
  obtain ⟨⟨⟨⟨⟨⟨⟨⟨⟨b1, b60⟩, braw⟩, b256⟩, bhs⟩, bgood⟩, ⟨⟨r1, r60⟩, r256⟩⟩, bstr⟩, bsh⟩, bend⟩ := hok
  have hrm : ∀ r ∈ roomsN n, 1 ≤ r ∧ r ≤ 9 := by
    have ha : 1 ≤ roomA n ∧ roomA n ≤ 4 := by unfold roomA; omega
    have hb : 1 ≤ roomB n ∧ roomB n ≤ 4 := by unfold roomB; omega
    intro r hr
    unfold roomsN at hr
    split at hr <;> simp at hr <;> rcases hr with rfl | rfl <;> omega
  with_reducible refine law_step (by decide) (law_1 (M := []) R S G h1) ?_
  rintro s1 ⟨c1a, t1, S1, h1a⟩
  with_reducible refine law_step (by decide) (law_2 (M := []) R S1 G h1a hm hsc hi hz) ?_
  rintro s2 ⟨m2, c1b, t2, S2, h1b⟩
  rw [hn] at h1b
  with_reducible refine law_step (by decide) (law_3 (M := []) R S2 G h1b) ?_
  rintro s3 ⟨m3, tb, S3, hbeg⟩
  with_reducible refine law_step (by decide) (law_4 (M := []) (mean := mean) (mg := mg) (mb := mb) (X := []) S3 h1b) ?_
  rintro s4 ⟨D1, ta4, tb4, S4⟩
  with_reducible refine law_step (by decide) (law_5 (M := []) (mean := mean) (mg := mg) (mb := mb) (X := [(D1, _)]) S4 h1b) ?_
  rintro s5 ⟨tk, S5⟩
  with_reducible refine law_step (by decide) (law_6 (mean := mean) (mg := mg) (mb := mb) S5) ?_
  rintro s6 ⟨Rm, S6⟩
  with_reducible refine law_step (by decide) (law_7 (M := []) R S6 G h2 (by tb_rel) (by tb_rel) (by tb_rel)) ?_
  rintro s7 ⟨rs, nR, c2b, v2b, S7, h2b, hrs⟩
  with_reducible refine law_step (by decide) (law_8 (mean := mean) (mg := mg) (mb := mb) R S7 (List.Mem.head _) (List.Mem.tail _ (List.Mem.head _)) (by tb_rel) (by tb_rel) (by tb_rel) hrs) ?_
  intro s8 S8
  have S8' := S8.subl (M' := (Rm, lsN rs nR) :: C4 L c1b c2b c3 ps) ((List.sublist_cons_self _ _).cons_cons _)
  with_reducible refine law_step (by decide) (law_9 (M := []) (X := [(Rm, lsN rs nR)]) R S8' G h3 (l := begF n) (by tb_rel) b60 braw) ?_
  rintro s9 ⟨N9, Hp, c3b, S9, hH9, h3b⟩
  with_reducible refine law_step (by decide) (law_10 (mean := mean) (mg := mg) (mb := mb) S9 (v := .str (T (begF n)) tb) (by tb_rel)) ?_
  intro s10 S10
  rw [List.append_assoc] at S10
  with_reducible refine law_step (by decide) (law_11 (M := []) R S10 G ht h2b h3b hH9 (by tb_rel) (by tb_rel) (by tb_rel) hrs hrm b60 bgood bhs) ?_
  rintro s11 ⟨m11, N11, Hp11, c2c, c3c, ps11, v2c, t11, S11, ht11, h2c, h3c, hH11, q1, q2, q3⟩
  with_reducible refine law_step (by decide) (law_12 R S11 G q3 r60) ?_
  rintro s12 ⟨t12, S12⟩
  with_reducible refine law_step (by decide) (law_13 (mean := mean) (mg := mg) (mb := mb) S12) ?_
  rintro s13 ⟨St, S13⟩
  have hlead : (leadF (ledAll (roomsN n) (begF n))).length ≤ 150 := by have := leadF_len (ledAll (roomsN n) (begF n)); omega
  with_reducible refine law_step (by decide) (law_14 R S13 G (by tb_rel) hlead) ?_
  rintro s14 ⟨N14, x14, S14, hw14⟩
  with_reducible refine law_step (by decide) (law_15 (M := []) R S14 G (by tb_rel) (by tb_rel) (by tb_rel) hw14 hlead bstr (by decide)) ?_
  rintro s15 ⟨m15, us, ku, S15, hus, hm15⟩
  have hHM : HpAt ((St, lsN us ku) :: (N11 ++ (Rm, lsN rs nR) :: C4 L c1b c2c c3c ps11)) Hp11 (hsAll (roomsN n) (heapsF (begF n))) := by
    obtain ⟨vsh, eh, hmh, hph⟩ := hH11.ex
    exact ⟨vsh, eh, .tail _ (List.mem_append.mpr (.inl hmh)), hph.sub fun q hq _ => .tail _ (List.mem_append.mpr (.inl hq))⟩
  with_reducible refine law_step (by decide) (law_16 R S15 G (c3 := c3c) (by simp) h3c hHM (by rw [hsAll_len]; exact bhs)) ?_
  rintro s16 ⟨Ct, cs, kc, S16, hcs⟩
  have k1 : m15 (Str.ofString "rooms") = some (.ref Rm) := (hm15 _ (name_ne (by decide)) (name_ne (by decide))).trans (by tb_rel)
  have k2 : m15 (Str.ofString "begin") = some (.str (T (begF n)) tb) := (hm15 _ (name_ne (by decide)) (name_ne (by decide))).trans (by tb_rel)
  have k3 : m15 (Str.ofString "row") = some (.str (T (ledAll (roomsN n) (begF n))) t11) := (hm15 _ (name_ne (by decide)) (name_ne (by decide))).trans (by tb_rel)
  have k4 : m15 (Str.ofString "struck") = some (.ref St) := (hm15 _ (name_ne (by decide)) (name_ne (by decide))).trans (by tb_rel)
  with_reducible refine law_step (by decide) (law_17 (mean := mean) (mg := mg) (mb := mb) R S16 (List.Mem.tail _ (List.Mem.head _)) (List.Mem.head _) (by tb_rel) (by tb_rel) hus hcs (by simp [cntsF]) rfl) ?_
  intro s17 S17
  with_reducible refine law_next (by decide) (wpC_mono (law_18 R S17 G (by tb_rel) r60 r1 r256) ?_ fun _ _ e => e)
  rintro f s18 ⟨rfl, t18, S18⟩
  dsimp only
  have S18' := S18.subl (M' := N11 ++ (Rm, lsN rs nR) :: C4 L c1b c2c c3c ps11) (.cons _ (.cons _ (List.Sublist.refl _)))
  with_reducible refine law_step (by decide) (law_19 (M := []) R S18' G ht11 h2c (by tb_rel) (by tb_rel) (by tb_rel) hrs hrm (by rw [List.length_reverse]; omega) bsh) ?_
  rintro s19 ⟨m19, M19, t19, ps19, S19, h63, e1, e2, e3⟩
  with_reducible refine law_next (by decide) (wpC_mono (law_20 R S19 G e1 e2 e3 (by omega) b1 b256 bend) ?_ fun _ _ e => e)
  rintro f s20 ⟨rfl, S20⟩
  exact ⟨rfl, m19, M19, ps19, S20, h63⟩

end
section
open PySem.Spec PySem.Calls
set_option maxHeartbeats 8000000
/-- a row under all the rooms that may be drawn -/
noncomputable def okB (b : List Nat) : Bool := [1, 2, 3, 4].all fun x => [1, 2, 3, 4].all fun y => okF b [x, y] && okF b [x, y, y]
noncomputable def okQ (k : Nat) : Bool := (List.range 4).all fun i => okB (begF (4 * k + i))
theorem okc_0 : okQ 0 = true := by decide +kernel
theorem okc_1 : okQ 1 = true := by decide +kernel
theorem okc_2 : okQ 2 = true := by decide +kernel
theorem okc_3 : okQ 3 = true := by decide +kernel
theorem okc_4 : okQ 4 = true := by decide +kernel
theorem okc_5 : okQ 5 = true := by decide +kernel
theorem okc_6 : okQ 6 = true := by decide +kernel
theorem okc_7 : okQ 7 = true := by decide +kernel
theorem okc_8 : okQ 8 = true := by decide +kernel
theorem okc_9 : okQ 9 = true := by decide +kernel
theorem okc_10 : okQ 10 = true := by decide +kernel
theorem okc_11 : okQ 11 = true := by decide +kernel
theorem okc_12 : okQ 12 = true := by decide +kernel
theorem okc_13 : okQ 13 = true := by decide +kernel
theorem okc_14 : okQ 14 = true := by decide +kernel
theorem okc_15 : okQ 15 = true := by decide +kernel
theorem okQ_all (k : Nat) (hk : k < 16) : okQ k = true := by
  match k, hk with
  | 0, _ => exact okc_0
  | 1, _ => exact okc_1
  | 2, _ => exact okc_2
  | 3, _ => exact okc_3
  | 4, _ => exact okc_4
  | 5, _ => exact okc_5
  | 6, _ => exact okc_6
  | 7, _ => exact okc_7
  | 8, _ => exact okc_8
  | 9, _ => exact okc_9
  | 10, _ => exact okc_10
  | 11, _ => exact okc_11
  | 12, _ => exact okc_12
  | 13, _ => exact okc_13
  | 14, _ => exact okc_14
  | 15, _ => exact okc_15
  | n + 16, h => exact absurd h (by omega)
theorem okB_all (j : Nat) (hj : j < 64) : okB (begF j) = true := by
  have h := List.all_eq_true.mp (okQ_all (j / 4) (by omega)) (j % 4) (List.mem_range.mpr (by omega))
  have e : 4 * (j / 4) + j % 4 = j := by omega
  rw [e] at h
  exact h
theorem bitF_mod (n k : Nat) (hk : k < 6) : bitF n k = bitF (n % 64) k := by
  unfold bitF
  have : n / 2 ^ k % 2 = n % 64 / 2 ^ k % 2 := by
    match k, hk with
    | 0, _ => omega
    | 1, _ => omega
    | 2, _ => omega
    | 3, _ => omega
    | 4, _ => omega
    | 5, _ => omega
  rw [this]
theorem begF_mod (n : Nat) : begF n = begF (n % 64) := by
  unfold begF rowBits
  have : (List.range 6).map (bitF n) = (List.range 6).map (bitF (n % 64)) := List.map_congr_left fun k hk => bitF_mod n k (List.mem_range.mp hk)
  rw [this]
theorem ok_all (n : Nat) : okF (begF n) (roomsN n) = true := by
  have h := okB_all (n % 64) (Nat.mod_lt _ (by decide))
  rw [← begF_mod] at h
  have four : ∀ r : Nat, 1 ≤ r → r ≤ 4 → ((r : Nat) : Int) ∈ [(1 : Int), 2, 3, 4] := by
    intro r h1 h2
    have : r = 1 ∨ r = 2 ∨ r = 3 ∨ r = 4 := by omega
    rcases this with rfl | rfl | rfl | rfl <;> decide
  have h2 := List.all_eq_true.mp (List.all_eq_true.mp h (roomA n : Nat) (four _ (by unfold roomA; omega) (by unfold roomA; omega))) (roomB n : Nat) (four _ (by unfold roomB; omega) (by unfold roomB; omega))
  rw [Bool.and_eq_true] at h2
  unfold roomsN
  split
  · exact h2.2
  · exact h2.1

end
section
open PySem.Spec PySem.Calls
theorem Sat.hide {s s' : Shared} {L P : Addr} {m : Str → Option Value} {M : List (Addr × Obj)} {o : OsState} {d : Drawn} {ob : Obj} (S : Sat s.heap L m M o d s') (hP : s.heap.get? P = some ob) (hL : P ≠ L) : Sat (hideAll s.heap [P]) L m (M ++ [(P, ob)]) o d s' := by
  refine ⟨⟨S.fr.ns, fun b ob' e => S.fr.keep b ob' (of_hideAll _ e), Nat.le_trans (Nat.le_of_eq (hideAll_size _ _)) S.fr.above⟩, fun p hp => ?_, ?_, S.gb, S.os, S.dr⟩
  · rcases List.mem_append.mp hp with hp | hp
    · refine ⟨(S.nw p hp).1, (S.nw p hp).2.1, ?_⟩
      cases e : (hideAll s.heap [P]).get? p.1 with
      | none => rfl
      | some x => have := of_hideAll _ e; rw [(S.nw p hp).2.2] at this; cases this
    · rw [List.mem_singleton.mp hp]
      exact ⟨S.fr.keep _ _ hP, hL, hideAll_none _ (.head _)⟩
  · rw [List.map_append, List.nodup_append]
    refine ⟨S.nd, List.nodup_cons.mpr ⟨List.not_mem_nil, List.nodup_nil⟩, fun a ha b hb => ?_⟩
    obtain ⟨p, hp, rfl⟩ := List.mem_map.mp ha
    rw [List.mem_singleton.mp hb]
    intro e
    have := (S.nw p hp).2.2
    rw [e] at this
    have h2 : s.heap.get? P = none := this
    rw [hP] at h2; cases h2
set_option maxHeartbeats 4000000 in
theorem law_call {w : World} {s : Shared} {mean : ExcName → Option Value} {mg mb : Str → Option Value} (T : Top Mine.view (looseW Mine.view loo) mean mg mb s.heap) (KX : (hd.heap_1 w.params).In s.heap) (h63 : s.heap.get? 63 = some (tabObj #[])) (g : AllBare s.gens)
    {sc : Addr} {vs : List Value} {ns : List Int} (hl : s.heap.IsList sc vs.toArray) (hi : IntsAre vs ns) (hz : vs.length ≤ 63) :
    wpC (model PySem.Challenge.rw_xo0031_01.row.prog w) callerA (call (.ref 221) [.ref sc]) (fun v s' => v = .bool true ∧ (∀ b o, b ≠ 63 → s.heap.get? b = some o → s'.heap.get? b = some o) ∧ (∃ ps, s'.heap.get? 63 = some (tabObj ps)) ∧ s'.os = s.os ∧ AllBare s'.gens) F0 s := by
  have ho := KX 221 _ (rfl : (hd.heap_1 w.params).lookup 221 = some _)
  have hT : TabsAt [(67, 63)] s.heap := fun q hq => by
    rcases List.mem_cons.mp hq with rfl | hq
    · exact ⟨codeHd_of_K KX (by kernel_rfl), h63⟩
    · cases hq
  have GL : Gl w mean mg mb (hideAll s.heap [63]) := ⟨ghost_K hT KX (by kernel_rfl), ghost_top hT T⟩
  have hsc : (hideAll s.heap [63]).IsList sc vs.toArray := ghost_list hT hl
  have R : Room callerA 13 := ⟨rfl, by decide, by decide⟩
  refine r_callCX (b := 12) R ho rfl rfl (codeRec_of (K := (hd.heap_1 w.params)) KX (by kernel_rfl)) T.nolimit (binds := [(Str.ofString "script", .ref sc)]) rfl rfl
    (by intro x hx; rcases List.mem_cons.mp hx with rfl | hx; exact .inl (by with_unfolding_all rfl)
        cases hx) g (show ([Str.ofString "heaps", Str.ofString "room", Str.ofString "code"] : List Str).Nodup by decide) rfl rfl rfl ?_
  clear ho
  intro A1 cells s1 R1 CA S1
  replace CA : CellsAre _ [(Str.ofString "heaps", s.heap.objs.size + 1 + 1 + 1), (Str.ofString "room", s.heap.objs.size + 1 + 1), (Str.ofString "code", s.heap.objs.size + 1)] cells := CA
  obtain ⟨o3, o2, o1, rfl, h3, h2, h1⟩ := CA.three
  replace h1 : o1.data = .cell none := h1
  replace h2 : o2.data = .cell none := h2
  replace h3 : o3.data = .cell none := h3
  have hL : (63 : Addr) ≠ s.heap.objs.size := Nat.ne_of_lt (Heap.lt_size h63)
  have S2 := S1.hide h63 hL
  obtain ⟨mm, S3, hmm⟩ : ∃ mm, Sat (hideAll s.heap [63]) s.heap.objs.size mm (C4 s.heap.objs.size o1 o2 o3 #[]) s.os s.drawn s1 ∧ mm (Str.ofString "script") = some (Value.ref sc) := by
    refine ⟨_, ⟨S2.fr, fun p hp => S2.nw p ?_, ?_, S2.gb, S2.os, S2.dr⟩, rfl⟩
    · simp only [List.mem_cons, List.not_mem_nil, or_false] at hp
      rcases hp with rfl | rfl | rfl | rfl <;> simp
    · have := S2.nd
      simp only [List.map_append, List.map_cons, List.map_nil, List.cons_append, List.nil_append, List.nodup_cons, List.mem_cons, List.not_mem_nil, or_false, not_or, not_false_eq_true, List.nodup_nil, and_true] at this ⊢
      obtain ⟨⟨-, -, e3⟩, ⟨-, e2⟩, e1⟩ := this
      exact ⟨⟨Nat.ne_of_lt (Nat.lt_succ_self _), Nat.ne_of_lt (Nat.lt_succ_of_lt (Nat.lt_succ_self _)), e1⟩, ⟨Nat.ne_of_lt (Nat.lt_succ_self _), e2⟩, e3⟩
  obtain ⟨n, hn⟩ : ∃ n : Nat, 1645 + sumGo 0 (ns.take 12) = (n : Nat) := ⟨(1645 + sumGo 0 (ns.take 12)).toNat, (Int.toNat_of_nonneg (by have := sumGo_nonneg 0 (ns.take 12); omega)).symm⟩
  have hfin := law_all (w := w) (M := []) (mean := mean) (mg := mg) (mb := mb) R1 S3 GL (by simp [TriplesOk]) h1 h2 h3 hmm hsc hi hz hn (ok_all n)
  refine wpC_mono hfin ?_ fun _ _ e => e
  rintro f s2 ⟨rfl, m', M', ps', S4, hm⟩
  refine ⟨rfl, fun b o hb e => S4.fr.keep b o (hideAll_get _ e (by simpa using hb)), ⟨ps', (S4.nw _ hm).1⟩, S4.os, S4.gb⟩

end
section
set_option maxHeartbeats 8000000
theorem law_holds : PySem.Challenge.rw_xo0031_01.Holds := hd ⟨tp_left, by
  k_fill
  intro w s₀ s₁ mg mb G Y h63 fa o pm cd doc dV kV ho hdd hcd hD hmg hg args vals as hpre hlay hrd hwl hlo
  have KX := kIn_of Y
  have X := (Ground.X G).1
  have V := (Ground.X G).2
  refine Ground.open G ?_
  intro T B D TE TW
  wrow_args hpre hlay hrd hwl hlo
  rename_i ns _ _ _ _ _ _ _ sc vs _ hL _ _ _ hI _ hz _
  have e := mg_of (n := Str.ofString "law") (v := .ref 221) KX T.g (by kernel_rfl)
  have e2 : some (Value.ref fa) = some (Value.ref 221) := hmg.symm.trans e
  cases e2
  refine wpC_mono (law_call T KX h63 (.of_eq hg) hL hI (by have := ints_len hI; omega)) ?_ fun _ _ h => h.elim
  rintro v s2 ⟨rfl, hk, ⟨ps, hps⟩, hos, hgb⟩
  refine ⟨.inl ⟨.bool true, .bool true, [], rfl, fun _ => rfl, .bool true, by kernel_rfl, fun _ => ⟨List.nodup_nil, fun a ha => nomatch ha⟩⟩, ⟨fun b o e => ?_, fun b o e => ?_⟩, hos, hgb⟩
  · by_cases hb : b = 63
    · subst hb
      rw [h63] at e; cases e
      exact .inr (.inl ⟨((codeHd_of_K KX (c := 67) (P := 63) (by kernel_rfl)).tab h63).isCodeTable, rfl, #[], ps, rfl, by rw [Array.empty_append]; exact hps⟩)
    · exact .inl (hk b o hb e)
  · by_cases hb : b = 63
    · subst hb; exact ⟨_, hps⟩
    · exact ⟨o, hk b o hb e⟩⟩

end
end Mine
set_option maxRecDepth 100000 in
theorem PySem.Challenge.cw_xo0031_01_holds : PySem.Challenge.rw_xo0031_01.Holds := by
  exact Mine.law_holds

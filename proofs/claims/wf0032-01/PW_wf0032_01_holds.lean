import PyProof.Rows.All
import Wide.All
import OpenK.AllK
import Wide.FinOn
import Lean
import PySem.Challenge.RW_wf0032_01
set_option Elab.async false
set_option maxRecDepth 100000
set_option rowWalk.seconds 0
set_option linter.all false
namespace Mine
open PySem PySem.W PySem.Spec PySem.Calls PyProof.Rows
local macro_rules | `(tactic| walk_at $s:str) => `(tactic| first | k_extra $(Lean.quote ("my:" ++ s.getString)) | fail)
local macro_rules | `(tactic| k_all) => `(tactic| first | k_extra "my:k_all" | fail)
local macro_rules | `(tactic| k_mem) => `(tactic| first | k_extra "my:k_mem" | fail)
local macro_rules | `(tactic| k_ne) => `(tactic| first | k_extra "my:k_ne" | fail)
local macro_rules | `(tactic| ksw_same) => `(tactic| first | k_extra "my:ksw_same" | fail)
local macro_rules | `(tactic| cell_enter) => `(tactic| first | k_extra "my:cell_enter" | fail)
local macro_rules | `(tactic| news_mem) => `(tactic| k_mem)
/-! Hd -/
/-- the codes that may hold a bytearray's buffer -/
def heldIds : List String := ["bytearray.__contains__", "bytearray.__mod__", "bytearray.__rmod__", "_struct.pack_into.held", "bytearray.find.held"] ++ Builtin.Bytes.decodersThatHold
def cleanC : Code → Bool
  | .builtin id _ => !heldIds.contains id
  | _ => true
abbrev Stk := List (Code × Pos)
def Clean (l : Stk) : Prop := ∀ x ∈ l, cleanC x.1 = true
theorem Clean.cons {c : Code} {p : Pos} {l : Stk} (hc : cleanC c = true) (h : Clean l) : Clean ((c, p) :: l) := List.forall_mem_cons.mpr ⟨hc, h⟩

/-- wpAny, in the contexts alone whose stack is clean -/
def wpC {α : Type} (M : Model) (A : Around) (t : Sem α) (Q : α → Shared → Prop) (E : Value → Shared → Prop) (s : Shared) : Prop :=
  ∀ Γ p, PySem.Ctx.In Γ A → cleanC Γ.code = true → Clean Γ.below → Sem.wp M Γ t (fun a _ s' => Q a s') (fun e _ s' => E e s') p s
def codeC (M : Model) (A : Around) (c : Code) (R : Result → Shared → Prop) (s : Shared) : Prop :=
  ∀ Γ p, Γ.code = c → PySem.Ctx.Below Γ A → Clean Γ.below → wpCode M Γ R p s

section
variable {α β : Type} {M : Model} {A : Around} {E : Value → Shared → Prop} {s : Shared}
theorem wpC_any {t : Sem α} {Q : α → Shared → Prop} (h : wpAny M A t Q E s) : wpC M A t Q E s := fun Γ p hΓ _ _ => h Γ p hΓ
theorem wpC_mono {t : Sem α} {Q Q' : α → Shared → Prop} {E' : Value → Shared → Prop} (h : wpC M A t Q E s) (hQ : ∀ a s, Q a s → Q' a s) (hE : ∀ e s, E e s → E' e s) : wpC M A t Q' E' s :=
  fun Γ p hΓ hc hb => Sem.wp_mono M Γ t (fun a _ s => hQ a s) (fun e _ s => hE e s) p s (h Γ p hΓ hc hb)
theorem wpC_pure {a : α} {Q : α → Shared → Prop} (h : Q a s) : wpC M A (pure a) Q E s := fun _ _ _ _ _ => h
theorem wpC_bind {m : Sem α} {f : α → Sem β} {Q : β → Shared → Prop} (h : wpC M A m (fun a s' => wpC M A (f a) Q E s') E s) : wpC M A (m >>= f) Q E s := fun Γ p hΓ hc hb => by
  rw [Sem.wp_bind']
  exact Sem.wp_mono M Γ m (fun a p' s' h' => h' Γ p' hΓ hc hb) (fun _ _ _ h' => h') p s (h Γ p hΓ hc hb)
theorem wpC_ab {m : Sem α} {f : α → Sem β} {Q : β → Shared → Prop} (h : wpAny M A m (fun a s' => wpC M A (f a) Q E s') E s) : wpC M A (m >>= f) Q E s := wpC_bind (wpC_any h)
theorem wpC_onRaise {m : Sem α} {k : Value → Sem Unit} {Q : α → Shared → Prop} (h : wpC M A m Q (fun e s' => wpAny M A (k e) (fun _ s'' => E e s'') E s') s) : wpC M A (m.onRaise k) Q E s := fun Γ p hΓ hc hb => by
  rw [Sem.wp_onRaise]
  exact Sem.wp_mono M Γ m (fun _ _ _ h' => h') (fun e p' s' h' => h' Γ p' hΓ) p s (h Γ p hΓ hc hb)
theorem wpC_holding {vs : List Value} {m : Sem α} {Q : α → Shared → Prop} (h : wpC M A m Q E s) : wpC M A (holding vs m) Q E s := fun Γ p hΓ hc hb => by rw [Sem.wp_holding]; exact h Γ p hΓ hc hb
theorem wpC_keep {vs : List Value} {m : Sem α} {Q : α → Shared → Prop} (h : wpC M A m Q E s) : wpC M A (m.keep vs) Q E s := fun Γ p hΓ hc hb => by rw [Sem.wp_keep]; exact h Γ p hΓ hc hb
theorem wpC_runValue {c : Code} {Q : Value → Shared → Prop} (hc : codeC M A c (fun r s' => match r with | .ok (.ret v) => Q v s' | .ok _ => False | .error e => E e s') s) : wpC M A (runValue c) Q E s :=
  fun Γ p hΓ hcl hb => by rw [Sem.wp_runValue]; exact hc _ p rfl (hΓ.enter c none p (by intro x; cases x)) (Clean.cons hcl hb)
theorem wpC_call {f : Value} {pos : List Value} {kw : List (Str × Value)} {Q : Value → Shared → Prop} (hc : codeC M A (.call f ⟨pos, kw⟩) (fun r s' => match r with | .ok (.ret v) => Q v s' | .ok _ => False | .error e => E e s') s) :
    wpC M A (call f pos kw) Q E s := wpC_runValue hc
theorem codeC_mono {c : Code} {R R' : Result → Shared → Prop} (h : codeC M A c R s) (hR : ∀ r s, R r s → R' r s) : codeC M A c R' s := fun Γ p hc hΓ hb => wpCode_mono hR (h Γ p hc hΓ hb)
theorem codeC_any {c : Code} {R : Result → Shared → Prop} (h : codeAny M A c R s) : codeC M A c R s := fun Γ p hc hΓ _ => h Γ p hc hΓ
theorem codeC_tree {c : Code} {R : Result → Shared → Prop} (hcl : cleanC c = true)
    (h : wpC M (A.under c) (M.den c) (fun fin s' => match fin with | .done f => R (.ok f) s' | .again c' => c'.quiet = true ∧ codeC M A c' R s') (fun e s' => R (.error e) s') s) : codeC M A c R s := fun Γ p hc hΓ hb => by
  rw [wpCode_iff_wp, hc]
  refine Sem.wp_mono M Γ _ (fun fin p' s' h' => ?_) (fun _ _ _ h' => h') p s (h Γ p (hc ▸ hΓ.in) (by rw [hc]; exact hcl) hb)
  cases fin with
  | done f => exact h'
  | again c' => exact ⟨h'.1, h'.2 (Γ.goto c') p' rfl (hΓ.goto c') hb⟩
theorem wpC_execs {env : Env} {st : Stmt} {rest : List Stmt} {Q : Flow → Shared → Prop} (h : wpC M A (exec st env) (fun f s' => match f with | .next => wpC M A (execs rest env) Q E s' | f => Q f s') E s) : wpC M A (execs (st :: rest) env) Q E s := fun Γ p hΓ hc hb => by
  rw [execs_cons, Sem.wp_bind']
  refine Sem.wp_mono M Γ _ (fun f p' s' h' => ?_) (fun _ _ _ h' => h') _ _ (h Γ p hΓ hc hb)
  cases f <;> first | exact h' Γ p' hΓ hc hb | exact h'
theorem wpC_Assign_Name {env : Env} {x : Str} {pos' pos : Pos} {value : Expr} {Q : Flow → Shared → Prop} (h : wpC M A (eval value env) (fun v s₁ => wpAny M A (storeName env x v) (fun _ => Q .next) E s₁) E s)
    (hs : swapsWith value (some (.Name x pos')) pos.line env = pure false := by rfl) : wpC M A (exec (.Assign [.Name x pos'] value pos) env) Q E s := fun Γ p hΓ hc hb => by
  simp only [exec_Assign_Name env x pos' value pos hs, Sem.wp_bind', Sem.wp_cmd_standAt, Sem.wp_bindName, Sem.wp_pure']
  exact Sem.wp_mono M Γ _ (fun v _ s₁ h₁ => h₁ Γ _ hΓ) (fun _ _ _ h' => h') _ _ (h Γ _ hΓ hc hb)
theorem wpC_Call_Name {env : Env} {id : Str} {p pos : Pos} {args : List Expr} {keywords : List Keyword} {Q : Value → Shared → Prop}
    (h : wpAny M A (eval (.Name id p) env) (fun f s₁ => wpC M A (callWith pos f [] (backTo pos (starEach args env)) (backToKw pos (keywordEach keywords env))) Q E s₁) E s) : wpC M A (eval (.Call (.Name id p) args keywords pos) env) Q E s := by
  rw [arm_eval_Call_Name']
  exact wpC_ab h
theorem wpC_callWith_function {pos : Pos} {a : Addr} {o : Obj} {fd : FuncData} {first : List Value} {args : List (Bool × Sem Value)} {Q : Value → Shared → Prop}
    (h : wpAny M A (evalArgs (.ref a) true args []) (fun x s₁ => (s₁.heap.get? a = some o ∧ o.data = .func fd) ∧ wpC M A (call (.ref a) (first ++ x.pos) x.kw) Q E s₁) E s) : wpC M A (callWith pos (.ref a) first args []) Q E s := by
  unfold callWith
  refine wpC_ab (wpAny_holding (wpAny_mono h (fun x s₁ h₁ => wpC_ab (wpAny_standAt ?_)) fun _ _ x => x))
  have tail : ∀ {t : Sem Value}, wpC M A t Q E s₁ → wpC M A (t >>= fun r => holding [r] point >>= fun _ => pure r) Q E s₁ :=
    fun ht => wpC_bind (wpC_mono ht (fun r s₂ hr => wpC_any (wpAny_bind (wpAny_holding (wpAny_point (wpAny_pure hr))))) fun _ _ x => x)
  cases hs : (args.any (·.1) || ([] : List (Option Str × Sem Value)).any (·.1.isNone)) <;>
    refine wpC_ab (m := keeperOf (.ref a)) ?_ <;> unfold keeperOf <;>
    refine wpAny_bind (wpAny_load h₁.1.1 ?_) <;> rw [h₁.1.2] <;> refine wpAny_pure ?_
  · dsimp only
    split
    · exact tail h₁.2
    · exact tail (by unfold callMarked; exact wpC_keep h₁.2)
  · exact tail (by unfold callMarked; exact wpC_keep h₁.2)
theorem wpC_callWith_type {pos : Pos} {T : String} {first : List Value} {args : List (Bool × Sem Value)} {Q : Value → Shared → Prop} (hplain : args.any (·.1) = false)
    (h : wpAny M A (evalArgs (.type T) true args []) (fun a s₁ => wpC M A (call (.type T) (first ++ a.pos) a.kw) Q E s₁) E s) : wpC M A (callWith pos (.type T) first args []) Q E s := by
  unfold callWith
  refine wpC_ab (wpAny_holding (wpAny_mono h (fun a s₁ h₁ => wpC_ab (wpAny_standAt ?_)) fun _ _ x => x))
  simp only [hplain, List.any_nil, Bool.or_false]
  refine wpC_ab (wpAny_pure ?_)
  exact wpC_bind (wpC_mono h₁ (fun r s₂ hr => wpC_any (wpAny_bind (wpAny_holding (wpAny_point (wpAny_pure hr))))) fun _ _ x => x)
end

section
variable {prog : Program} {w : World} {A : Around} {s : Shared} {R : Result → Shared → Prop}
theorem codeC_func {body : List Stmt} {env : Env}
    (h : wpC (model prog w) (A.deeper env) (execs body env) (fun f s' => R (.ok (.ret (match f with | .ret v => v | _ => .none))) s')
      (fun e s' => wpAny (model prog w) (A.deeper env) (leaving env e) (fun _ s'' => R (.error e) s'') (fun e' s'' => R (.error e') s'') s') s) : codeC (model prog w) A (.func body env) R s := by
  refine codeC_tree rfl ?_
  show wpC _ (A.deeper env) (do point; match ← (execs body env).onRaise (leaving env) with | .ret v => ret v | _ => ret .none) _ _ s
  refine wpC_ab (wpAny_point (wpC_bind (wpC_onRaise (wpC_mono h (fun f s' h' => ?_) fun _ _ h' => h'))))
  cases f <;> exact wpC_any (wpAny_pure h')
theorem codeC_call_function {a : Addr} {args : Args} {o : Obj} {fd : FuncData} {body : List Stmt} (hroom : A.depth < recursionLimit) (ho : s.heap.get? a = some o)
    (hd' : o.data = .func fd) (hco : fd.scope.isCoroutine = false) (hgen : fd.scope.isGenerator = false) (hbody : fd.body = .stmts body) (hcd : s.heap.CodeRec fd.code fd.qualname)
    (h : wpAny (model prog w) A.in1 (bindArgs fd args) (fun binds s₁ =>
      wpAny (model prog w) A.in1 (newFunctionEnv fd.scope fd.globals fd.closure binds (fd.qualname ++ ".<locals>.") (some a) fd.code none fd.builtins)
        (fun env s₂ => s₂.heap.NoLimit ∧ codeC (model prog w) A (.func body env) R s₂) (fun e s' => R (.error e) s') s₁) (fun e s' => R (.error e) s') s) :
    codeC (model prog w) A (.call (.ref a) args) R s := by
  refine codeC_tree rfl (wpC_any ?_)
  show wpAny _ A.in1 (callAny (.ref a) args) _ _ s
  simp only [callAny]
  refine wpAny_bind (wpAny_load ho ?_)
  obtain ⟨c, oc, vs, tq, hc, hoc, hdc, hq⟩ := hcd
  simp only [hd', callFunction, hco, hgen, hbody, hc]
  rw [hc] at h
  refine wpAny_bind (m := field (.ref c) 1) (wpAny_field hoc hdc hq (wpAny_bind (wpAny_pure ?_)))
  exact wpAny_bind (wpAny_mono h (fun binds s₁ h₁ => wpAny_bind (wpAny_mono h₁ (fun env s₂ h₂ => wpAny_bind (wpAny_enterFrame h₂.1 hroom
    (wpAny_pure (And.intro rfl h₂.2)))) fun _ _ h' => h')) fun _ _ h' => h')
theorem codeC_call_def {a : Addr} {o : Obj} {fd : FuncData} {body : List Stmt} {args : Args} {binds : List (Str × Value)}
    (hroom : A.depth < recursionLimit) (ho : s.heap.get? a = some o) (hdata : o.data = .func fd) (hlim : s.heap.NoLimit) (hcd : s.heap.CodeRec fd.code fd.qualname)
    (hbody : fd.body = .stmts body) (hbind : BindsTo s fd args binds)
    (hcell : ∀ x ∈ fd.scope.names, x.2 ≠ .cell) (hloc : ∀ x ∈ binds, fd.scope.names.lookup x.1 = some .local)
    (h : ∀ h₀, h₀.Ns s.heap.objs.size (fun x => binds.reverse.lookup x) → (∀ b o, s.heap.get? b = some o → h₀.get? b = some o) →
      wpC (model prog w) (A.deeper (callEnv fd s.heap.objs.size a)) (execs body (callEnv fd s.heap.objs.size a)) (fun f s' => R (.ok (.ret (match f with | .ret v => v | _ => .none))) s')
        (fun e s' => wpAny (model prog w) (A.deeper (callEnv fd s.heap.objs.size a)) (leaving (callEnv fd s.heap.objs.size a) e) (fun _ s'' => R (.error e) s'') (fun e' s'' => R (.error e') s'') s')
        { s with heap := h₀, toks := s.toks + binds.length })
    (hco : fd.scope.isCoroutine = false := by rfl) (hgen : fd.scope.isGenerator = false := by rfl) (hk : fd.scope.kind = .function := by rfl) :
    codeC (model prog w) A (.call (.ref a) args) R s := by
  refine codeC_call_function hroom ho hdata hco hgen hbody hcd (hbind _ _ _ _ ?_)
  refine wpAny_newFunctionEnv hcell hloc (fun h₀ hns₀ hsb₀ => ⟨hlim.fresh _ hsb₀, codeC_func (h h₀ hns₀ fun b o e => ?_)⟩) hk
  exact hsb₀.extBut b o (Nat.ne_of_lt (Heap.lt_size e)) (Heap.get?_push_of_some _ e)
end
section
variable {prog : Program} {w : World} {A₀ A : Around} {s : Shared} {base h₀ : Heap} {outer : List Env} {L : Addr} {m : Str → Option Value} {env : Env} {news : List (Addr × Obj)} {K : Frag} {p : Program} {loose : List Str} {mean : ExcName → Option Value} {mg mb : Str → Option Value}
  {R : Result → Shared → Prop} {name qual : Str} {params : Arguments} {body : List Stmt} {scope : Scope} {dV kV doc pm cdv ct oc : Value} {an od : Option Addr} {osl : Array (Option Value)} {f : Addr} {args : Args} {binds : List (Str × Value)}
theorem codeC_def
    (B : Below A₀ base outer h₀) (F : Fr h₀ L s.heap m) (X₀ : K.In h₀) (N : News h₀ L s.heap news) (T : Top p loose mean mg mb h₀) (hA : A.frames = some (env :: outer)) (hf : env.frame = some L) (hke : env.scope.kind = .function)
    (ho : K.lookup f = some ⟨oc, od, .func (fnOf name qual params body scope dV kV doc pm an cdv ct), osl⟩) (hcd : codeIn K cdv qual = true) (hroom : A.depth < recursionLimit)
    (hbind : BindsTo s (fnOf name qual params body scope dV kV doc pm an cdv ct) args binds) (hloc : ∀ y ∈ binds, scope.names.lookup y.1 = some .local)
    (h : ∀ g L' h₁, Fr h₀ L g m → Fr g L' h₁ (fun y => binds.reverse.lookup y) → News g L' h₁ news → Below A base (env :: outer) g → K.In g → Top p loose mean mg mb g →
      wpC (model prog w) (A.deeper (envOf qual scope L' f cdv)) (execs body (envOf qual scope L' f cdv))
        (fun fl s' => LeaveK h₀ L m g R (match fl with | .ret v => v | _ => .none) s')
        (fun e s' => wpAny (model prog w) (A.deeper (envOf qual scope L' f cdv)) (leaving (envOf qual scope L' f cdv) e) (fun _ s'' => R (.error e) s'') (fun e' s'' => R (.error e') s'') s')
        { s with heap := h₁, toks := s.toks + binds.length })
    (hco : scope.isCoroutine = false) (hgen : scope.isGenerator = false) (hk : scope.kind = .function)
    (hcell : ∀ x ∈ scope.names, x.2 ≠ .cell) : codeC (model prog w) A (.call (.ref f) args) R s := by
  obtain ⟨FG, BG, st, lv⟩ := groundX (R := R) B F N hA hf hke
  refine codeC_call_def (fd := fnX name qual params body scope [] dV kV doc pm an cdv ct) (body := body) (binds := binds) hroom ((X₀.keeps F.keep) _ _ ho) rfl (T.nolimit.keeps F.keep) (codeRec_of (X₀.keeps F.keep) hcd) rfl hbind hcell hloc (fun h₁ hns hk₁ => ?_) hco hgen hk
  exact wpC_mono (h _ s.heap.objs.size h₁ FG ⟨hns, fun b o e => hk₁ b o (of_hideAll _ e), Nat.le_of_eq (hideAll_size _ _)⟩
    (fun p hp => ⟨hk₁ _ _ (N p hp).1, Nat.ne_of_lt (Heap.lt_size (N p hp).1), hideAll_none _ (List.mem_map_of_mem hp)⟩) BG (X₀.keeps st) (T.keeps st)) (fun fl s' hl => lv _ _ hl) fun _ _ y => y
end
/-- the caller alone on the stack -/
def isCaller : Code → Bool
  | .builtin id _ => id == "claim.caller"
  | _ => false
def alone : Stk → Bool
  | x :: l => l.isEmpty && isCaller x.1
  | [] => false
theorem alone_clean {Γ : PySem.Ctx} {p : Pos} (h : alone ((Γ.code, p) :: Γ.below) = true) : cleanC Γ.code = true ∧ Clean Γ.below := by
  obtain ⟨c, hd, ow, bl, pt⟩ := Γ
  obtain ⟨h1, h2⟩ := Bool.and_eq_true_iff.mp h
  have h1 := List.isEmpty_iff.mp h1
  dsimp only at h1 h2 ⊢
  subst h1
  refine ⟨?_, fun x hx => nomatch hx⟩
  cases c with
  | builtin id args =>
    obtain rfl : id = "claim.caller" := eq_of_beq h2
    show (!heldIds.contains "claim.caller") = true
    decide +kernel
  | _ => cases h2

theorem step_look {den : Code → Sem PySem.Fin} {prog : Program} {w : World} {s : Shared} (hz : s.asleep) {k : Stk → Sem PySem.Fin} {c : Code} {n : Nat} {o : Outcome} {s' : Shared}
    (h : schedN den prog w n (.single s ⟨.stack k, c, default, []⟩) = .halted o s') : ∃ n', schedN den prog w n' (.single s ⟨k [(c, default)], c, default, []⟩) = .halted o s' := by
  cases n with
  | zero => cases h
  | succ n =>
    have hc : Thread.calm ⟨.stack k, c, default, []⟩ = true := by
      simp [Thread.calm, Thread.atCollectorCode, Thread.yieldsInsideHandler]
    rcases sstep_single den prog w s ⟨.stack k, c, default, []⟩ hc hz with e | e
    · refine ⟨n, ?_⟩
      simp only [schedN, e] at h
      exact h
    · obtain ⟨heap, gens, drawn, toks, os⟩ := s
      cases e

def lookTree (t : Sem PySem.Fin) : Sem PySem.Fin := .stack fun st => if alone st = true then t else ret (.bool true)

theorem holds_of_look {c : ClaimW} {t : List Value → Sem PySem.Fin} {defs keeps : List Str} {writes : Bool}
    (h : c.HoldsOpenBy (fun vs => ⟨lookTree (t vs), .builtin "claim.caller" {}, default, []⟩) defs keeps writes) : c.HoldsOpenBy (fun vs => ⟨t vs, .builtin "claim.caller" {}, default, []⟩) defs keeps writes := by
  obtain ⟨h1, h2, h3⟩ := h
  refine ⟨h1, h2, fun w => ⟨(h3 w).1, fun s hs => ?_⟩⟩
  obtain ⟨s₀, f, g, s₁, T, d, r1, r2, call⟩ := (h3 w).2 s hs
  refine ⟨s₀, f, g, s₁, T, d, r1, r2, fun args hpre hlay ord hord => ?_⟩
  obtain ⟨vs, s₂, hl, n, o, s', hrun, rest⟩ := call args hpre hlay ord hord
  have z : s₂.asleep := Shared.asleep_of_life ((layAllW_rest _ _ _ hl).2.2.2.trans (T.2.1.trans (fence_lifeW f))) (AfterImport.life hs)
  obtain ⟨n', hrun'⟩ := step_look z hrun
  rw [if_pos (show alone [(Code.builtin "claim.caller" {}, default)] = true from rfl)] at hrun'
  exact ⟨vs, s₂, hl, n', o, s', hrun', rest⟩

abbrev WalkL (q : Program) (loose : List Str) (XP : (Str → Option Value) → Heap → Prop) (YP : World → Heap → Prop) (r : RowW) (d : DefRec) (kwd : List (Str × Expr)) : Prop :=
  ∀ (w : World) (s₀ s₁ : Shared) (mg mb : Str → Option Value), Ground q loose r.records XP w s₀ mg mb s₁.heap → YP w s₁.heap → ∀ (a : Addr) (o : Obj) (pm cd doc dV kV : Value), s₁.heap.get? a = some o →
    o.data = .func { docDef d.name d.params d.body d.scope pm cd doc with defaults := dV, kwdefaults := kV } → s₁.heap.CodeRec cd d.name → Dflts mg s₁.heap d.params kwd dV kV → mg d.name = some (.ref a) → s₁.gens = #[] →
    ∀ (args : List WData) (vals : List Value) (as : List Addr), r.claim.pre args = true → WData.layableAll args = true → ReadsAllW r.records (classAt s₀.heap) s₁.heap vals args as → WellAll w.params s₁.heap vals args → (∀ a ∈ as, (a == sysModules) = false) →
      GoodWG r.claim (classAt s₀.heap) (ExcName.means s₀.heap) args s₁ (.ok (.ret (.bool true))) s₁ ∧
      wpC (model r.prog w) callerA (call (.ref a) vals) (fun v s' => GoodWG r.claim (classAt s₀.heap) (ExcName.means s₀.heap) args s₁ (.ok (.ret v)) s')
        (fun e s' => GoodWG r.claim (classAt s₀.heap) (ExcName.means s₀.heap) args s₁ (.error e) s') s₁
/-- as LeftO; its own name keeps the head from laying the top out in pieces -/
abbrev LeftM (p q : Program) (loose : List Str) (Xt : Shared → Bool) {α : Type} (Yf : Shared → α) (Ya : World → α) (N : Nat) : Prop := LeftO p q loose Xt Yf Ya N
/-- the head, for a call that is walked under the caller alone -/
theorem PySem.W.holds_open {r : OpenRow} {q : Program} {loose : List Str} {Xt : Shared → Bool} {XP : (Str → Option Value) → Heap → Prop} {α : Type} {Yf : Shared → α} {Ya : World → α} {YP : World → Heap → Prop} {d : DefRec} {kwd : List (Str × Expr)} {N : Nat}
    (left : LeftM r.prog q loose Xt Yf Ya N) (hY : ∀ w s, Yf s = Ya w → YP w s.heap) (hYk : ∀ w h h', YP w h → (∀ b o, h.get? b = some o → h'.get? b = some o) → YP w h')
    (hX : ∀ s, Xt s = true → XP (s.heap.nsMap mainGlobals) s.heap) (hXk : ∀ mg h h', XP mg h → (∀ b o, h.get? b = some o → h'.get? b = some o) → XP mg h')
    (hdef : defOf q r.name = some (d, kwd)) (hp : r.prog.theDef r.name = some (d.params, d.body, d.scope)) (hk : kwWritten? d.params.kwonlyargs d.params.kw_defaults = some kwd) (hRf : ∀ s, Xt s = true → RecFacts r.records s.heap) (hwr : (!r.writes || r.records.isEmpty) = true)
    (k1 : r.wellSaid = true) (ok : (chainsOk q && opensWell r.prog && (frees r.toRowW && r.within.isEmpty)) = true) (hb : r.prog.bare) (hw : r.toRowW.promised)
    (walk : WalkL q loose XP YP r.toRowW d kwd) : r.Holds := by
  refine ⟨k1, hw, holds_of_look (t := fun vs => do match ← nsGet mainNs r.name with
      | some f => do ret (← call f vs)
      | none => unsupported "claim.caller:no-such-global") (open_anyG (r := r.toRowW)
    (run := fun f vs => Sem.stack fun st => if alone st = true then call f vs else pure (.bool true)) (tree := fun vs => lookTree (do match ← nsGet mainNs r.name with
      | some f => do ret (← call f vs)
      | none => unsupported "claim.caller:no-such-global")) left hY hYk hX hXk hRf hwr ok hb hw ?_
    (fun w s hg G n hn => ?_) fun w s₀ s₁ mg mb G Y args vs as hpre hlay L low => ?_)⟩
  · intro vs w s mg f Q E hg hf h Γ p hΓ
    have h0 := h Γ p hΓ
    show Sem.wp _ Γ (if alone ((Γ.code, p) :: Γ.below) = true then _ else _) _ _ p s
    have h1 : Sem.wp (model r.prog w) Γ (if alone ((Γ.code, p) :: Γ.below) = true then call f vs else pure (.bool true)) (fun v _ s' => Q (.done (.ret v)) s') (fun e _ s' => E e s') p s := by
      rw [Sem.wp_stack] at h0
      exact h0
    split at h1
    · rename_i c
      rw [if_pos c, Sem.wp_bind']
      refine (Sem.wp_nsGet _ Γ _ p s hg _ _).mpr ?_
      rw [hf]
      rw [Sem.wp_bind']
      exact Sem.wp_mono _ Γ _ (fun v p' s' x => x) (fun _ _ _ x => x) _ _ h1
    · rename_i c
      rw [if_neg c]
      exact h1
  · obtain rfl : n = r.name := by split at hn <;> simp_all
    exact pinned_of_view hg G hdef hp hk
  · obtain ⟨a, o, pm, cd, doc, dV, kV, h1, h2, h3, h4, h5⟩ := G.fn hdef
    have W := walk w s₀ s₁ mg mb G Y a o pm cd doc dV kV h2 h3 h4 h5 (defOf_name hdef ▸ h1) L.gens args vs as hpre hlay L.reads L.well (L.low low)
    refine ⟨.ref a, h1, fun Γ p hΓ => ?_⟩
    rw [Sem.wp_stack]
    split
    · rename_i c
      exact W.2 Γ p hΓ (alone_clean c).1 (alone_clean c).2
    · exact W.1
set_option maxRecDepth 100000 in
set_option maxHeartbeats 8000000 in
open_top hd for (OpenLaw.row PySem.Challenge.rw_wf0032_01)
theorem holds_hd (h : (OpenLaw.row PySem.Challenge.rw_wf0032_01).Holds) : PySem.Challenge.rw_wf0032_01.Holds := by
  o_law
  exact h
/-! Base -/
abbrev Led := List (Addr × Obj)
/-- the goal under a name -/
theorem goal_abs {P : Prop} (h : ¬ P → False) : P := Classical.byContradiction h
theorem allObj1 {a : Addr} {c : String} {k : Led → Prop} (h : ∀ o : Obj, o.cls = .type c → k [(a, o)]) : AllObj [(a, c)] k := fun o ho => h o ho
theorem allObj2 {a b : Addr} {c d : String} {k : Led → Prop} (h : ∀ o : Obj, o.cls = .type c → ∀ o' : Obj, o'.cls = .type d → k [(a, o), (b, o')]) : AllObj [(a, c), (b, d)] k := fun o ho o' ho' => h o ho o' ho'

/-- what is wanted behind a step, under a short name -/
theorem wp_abs {α : Type} {M : Model} {A : Around} {t : Sem α} {Q : α → Shared → Prop} {E : Value → Shared → Prop} {s : Shared} (h : ∀ Q' : α → Shared → Prop, Q' = Q → wpAny M A t Q' E s) : wpAny M A t Q E s := h Q rfl
theorem turn_abs {α β : Type} {M : Model} {A : Around} {t : Sem α} {b : Sem β} {P : β → Shared → Prop} {E : Value → Shared → Prop} {s : Shared} (h : ∀ P' : β → Shared → Prop, P' = P → wpAny M A t (fun _ s₂ => wpAny M A b P' E s₂) E s) : wpAny M A t (fun _ s₂ => wpAny M A b P E s₂) E s := h P rfl
theorem codeC_wish {M : Model} {A : Around} {c : Code} {R : Result → Shared → Prop} {s : Shared} (P : (Result → Shared → Prop) → Prop) (hP : P R) (h : ∀ R' : Result → Shared → Prop, P R' → codeC M A c R' s) : codeC M A c R s := h R hP
/-- a statement's end, said apart -/
def Cut (f : Flow) (P : Prop) : Prop := f = .next ∧ P
theorem execs_cut {M : Model} {A : Around} {E : Value → Shared → Prop} {s : Shared} {env : Env} {st : Stmt} {rest : List Stmt} {Q : Flow → Shared → Prop} (Mid : Shared → Prop) (h1 : wpAny M A (exec st env) (fun f s' => Cut f (Mid s')) E s) (h2 : ∀ s', Mid s' → wpAny M A (execs rest env) Q E s') : wpAny M A (execs (st :: rest) env) Q E s :=
  wpAny_execs_cons (wpAny_mono h1 (fun f s' h => by
    obtain ⟨rfl, h⟩ := h
    exact h2 s' h) fun _ _ e => e)
theorem Fr.abs {h₀ h : Heap} {L : Addr} {m : Str → Option Value} (F : Fr h₀ L h m) : ∃ M, M = m ∧ Fr h₀ L h M := ⟨m, rfl, F⟩
/-- what a call of the def at f, with these arguments, over this ledger does: it ends in Post -/
def Tel (w : World) (mean : ExcName → Option Value) (mg mb : Str → Option Value) (D U : Nat) (f : Addr) (vs : List Value) (kw : List (Str × Value)) (news : Led) (Post : Value → Led → Prop) : Prop :=
  ∀ (dp un : Nat) (gd : Option (List Code)) (cn : Str) (cs : Scope) (a : Addr) (ccd : Value) (cl : List (Str × Addr)) (outer : List Env) (A₀ : Around) (base h₀ : Heap) (L : Addr) (m : Str → Option Value) (s : Shared) (Q E : Value → Shared → Prop),
    Below A₀ base outer h₀ → Fr h₀ L s.heap m → (Mine.hd.heap_1 w.params).In h₀ → News h₀ L s.heap news → Top Mine.hd.view_1 [Str.ofString "insort_right", Str.ofString "bisect_right", Str.ofString "bisect_left"] mean mg mb h₀ → cs.kind = .function →
    dp + D < recursionLimit → un + U < cLine →
    (∀ r news' h' tk', Fr h₀ L h' m → News h₀ L h' news' → Post r news' → Q r { s with heap := h', toks := tk' }) →
    wpAny (model PySem.Challenge.rw_wf0032_01.row.prog w) (ktrTop dp un gd cn cs L a ccd cl outer) (call (.ref f) vs kw) Q E s

/-- bisect_left's own steps -/
def blF (ns : List Int) (x : Int) : Nat → Int → Int → Int
  | 0, lo, _ => lo
  | k + 1, lo, hi => if lo < hi then (if ns.getD ((lo + hi).fdiv 2).toNat 0 < x then blF ns x k ((lo + hi).fdiv 2 + 1) hi else blF ns x k lo ((lo + hi).fdiv 2)) else lo
def bl (ns : List Int) (x lo hi : Int) : Int := blF ns x (hi - lo).toNat lo hi

theorem md_lo {a b : Int} (h : a < b) : a ≤ (a + b).fdiv 2 := by rw [Int.fdiv_eq_ediv_of_nonneg _ (by decide)]; omega
theorem md_hi {a b : Int} (h : a < b) : (a + b).fdiv 2 < b := by rw [Int.fdiv_eq_ediv_of_nonneg _ (by decide)]; omega
theorem md_r {a b : Int} (h : a < b) : (b - ((a + b).fdiv 2 + 1)).toNat < (b - a).toNat := by
  have := md_lo h
  generalize (a + b).fdiv 2 = m at *
  omega
theorem md_l {a b : Int} (h : a < b) : ((a + b).fdiv 2 - a).toNat < (b - a).toNat := by
  have := md_hi h
  generalize (a + b).fdiv 2 = m at *
  omega
theorem nt0 {a b : Int} (h : (b - a).toNat ≤ 0) : ¬ a < b := by omega
theorem nt1 {a b : Int} (h : ¬ a < b) : (b - a).toNat = 0 := by omega
theorem nt2 {a b : Int} (h : a < b) : ∃ k, (b - a).toNat = k + 1 := ⟨(b - a).toNat - 1, by omega⟩
theorem blF_more (ns : List Int) (x : Int) : ∀ (k j : Nat) (lo hi : Int), (hi - lo).toNat ≤ k → (hi - lo).toNat ≤ j → blF ns x k lo hi = blF ns x j lo hi := by
  intro k
  induction k with
  | zero =>
    intro j lo hi h1 h2
    cases j with
    | zero => rfl
    | succ j => simp only [blF]; rw [if_neg (nt0 h1)]
  | succ k ih =>
    intro j lo hi h1 h2
    cases j with
    | zero => simp only [blF]; rw [if_neg (nt0 h2)]
    | succ j =>
      simp only [blF]
      by_cases h : lo < hi
      · rw [if_pos h, if_pos h]
        split
        · exact ih _ _ _ (Nat.le_of_lt_succ (Nat.lt_of_lt_of_le (md_r h) h1)) (Nat.le_of_lt_succ (Nat.lt_of_lt_of_le (md_r h) h2))
        · exact ih _ _ _ (Nat.le_of_lt_succ (Nat.lt_of_lt_of_le (md_l h) h1)) (Nat.le_of_lt_succ (Nat.lt_of_lt_of_le (md_l h) h2))
      · rw [if_neg h, if_neg h]
theorem bl_step (ns : List Int) (x lo hi : Int) : bl ns x lo hi = if lo < hi then (if ns.getD ((lo + hi).fdiv 2).toNat 0 < x then bl ns x ((lo + hi).fdiv 2 + 1) hi else bl ns x lo ((lo + hi).fdiv 2)) else lo := by
  unfold bl
  by_cases h : lo < hi
  · rw [if_pos h]
    obtain ⟨k, hk⟩ := nt2 h
    have hr := md_r h
    have hl := md_l h
    rw [hk] at hr hl ⊢
    simp only [blF]
    rw [if_pos h]
    split
    · exact blF_more ns x _ _ _ _ (Nat.le_of_lt_succ hr) (Nat.le_refl _)
    · exact blF_more ns x _ _ _ _ (Nat.le_of_lt_succ hl) (Nat.le_refl _)
  · rw [if_neg h, nt1 h]; rfl

theorem words_Base1 : True := by
  k_with "my:cell_enter" => ((refine' code_def ?k1ₓ ?k2ₓ ?k3ₓ ?k4ₓ ?k5ₓ ?kAₓ ?kFₓ ?kKₓ ?k6ₓ ?k7ₓ ?k8ₓ ?k9ₓ ?kBₓ ?_ ?c2ₓ ?c3ₓ ?c4ₓ ?c5ₓ; (case kAₓ => exact rfl); (case kFₓ => exact rfl); (case kKₓ => assumption); (case k1ₓ => k_asm); (case k2ₓ => k_asm); (case k3ₓ => k_asm); (case k4ₓ => k_asm); (case k5ₓ => k_asm); (case k6ₓ => k_is); (case k7ₓ => k_is); (case k8ₓ => ktr_room); (case k9ₓ => first | exact BindsTo.of_eq rfl | exact kp_binds (by k_in) (fun _ => rfl) | exact binds_K (by k_in) rfl (by k_is) rfl rfl rfl); (case c5ₓ => decide); (case kBₓ => exact locs rfl); (case c2ₓ => exact rfl); (case c3ₓ => exact rfl); (case c4ₓ => exact rfl); k_whole; intro gₓ Lₓ hₓ FGₓ Fₓ Nₓ Bₓ Xₓ Tₓ; (try dsimp only); (try k_lift Bₓ); (try k_fold)))
  trivial

theorem allNe_of {d : Addr} {l : Led} (h : ∀ p ∈ l, p.1 < d) : ∀ p ∈ l, p.1 ≠ d := fun p hp => Nat.ne_of_lt (h p hp)
theorem words_Base2 : True := by
  k_with "my:k_ne" => ((refine neN ?_; (try dsimp only); with_reducible first | exact Nat.ne_of_lt (by assumption) | exact Nat.ne_of_gt (by assumption) | exact Nat.ne_of_lt (And.left (by assumption)) | exact Nat.ne_of_gt (And.left (by assumption)) | exact Nat.ne_of_lt (And.left (And.right (by assumption))) | exact Nat.ne_of_gt (And.left (And.right (by assumption))) | exact Nat.ne_of_lt (And.left (And.right (And.right (by assumption)))) | exact Nat.ne_of_gt (And.left (And.right (And.right (by assumption)))) | exact Nat.ne_of_lt (And.left (And.right (And.right (And.right (by assumption))))) | exact Nat.ne_of_gt (And.left (And.right (And.right (And.right (by assumption))))) | exact Nat.ne_of_lt (And.left (And.right (And.right (And.right (And.right (by assumption)))))) | exact Nat.ne_of_gt (And.left (And.right (And.right (And.right (And.right (by assumption)))))) | exact Nat.ne_of_lt (And.left (And.right (And.right (And.right (And.right (And.right (by assumption))))))) | exact Nat.ne_of_gt (And.left (And.right (And.right (And.right (And.right (And.right (by assumption))))))) | exact Nat.ne_of_lt (And.left (And.right (And.right (And.right (And.right (And.right (And.right (by assumption)))))))) | exact Nat.ne_of_gt (And.left (And.right (And.right (And.right (And.right (And.right (And.right (by assumption)))))))) | exact Nat.ne_of_lt (And.left (And.right (And.right (And.right (And.right (And.right (And.right (And.right (by assumption))))))))) | exact Nat.ne_of_gt (And.left (And.right (And.right (And.right (And.right (And.right (And.right (And.right (by assumption))))))))) | exact Nat.ne_of_lt (And.left (And.right (And.right (And.right (And.right (And.right (And.right (And.right (And.right (by assumption)))))))))) | exact Nat.ne_of_gt (And.left (And.right (And.right (And.right (And.right (And.right (And.right (And.right (And.right (by assumption)))))))))) | exact Nat.ne_of_lt (And.left (And.right (And.right (And.right (And.right (And.right (And.right (And.right (And.right (And.right (by assumption))))))))))) | exact Nat.ne_of_gt (And.left (And.right (And.right (And.right (And.right (And.right (And.right (And.right (And.right (And.right (by assumption))))))))))) | exact Nat.ne_of_lt (And.left (And.right (And.right (And.right (And.right (And.right (And.right (And.right (And.right (And.right (And.right (by assumption)))))))))))) | exact Nat.ne_of_gt (And.left (And.right (And.right (And.right (And.right (And.right (And.right (And.right (And.right (And.right (And.right (by assumption)))))))))))) | exact Nat.ne_of_lt (And.left (And.right (And.right (And.right (And.right (And.right (And.right (And.right (And.right (And.right (And.right (And.right (by assumption))))))))))))) | exact Nat.ne_of_gt (And.left (And.right (And.right (And.right (And.right (And.right (And.right (And.right (And.right (And.right (And.right (And.right (by assumption))))))))))))) | exact Nat.ne_of_lt (And.left (And.right (And.right (And.right (And.right (And.right (And.right (And.right (And.right (And.right (And.right (And.right (And.right (by assumption)))))))))))))) | exact Nat.ne_of_gt (And.left (And.right (And.right (And.right (And.right (And.right (And.right (And.right (And.right (And.right (And.right (And.right (And.right (by assumption)))))))))))))) | exact Nat.ne_of_lt (And.left (And.right (And.right (And.right (And.right (And.right (And.right (And.right (And.right (And.right (And.right (And.right (And.right (And.right (by assumption))))))))))))))) | exact Nat.ne_of_gt (And.left (And.right (And.right (And.right (And.right (And.right (And.right (And.right (And.right (And.right (And.right (And.right (And.right (And.right (by assumption))))))))))))))) | exact Nat.ne_of_lt (And.left (And.right (And.right (And.right (And.right (And.right (And.right (And.right (And.right (And.right (And.right (And.right (And.right (And.right (And.right (by assumption)))))))))))))))) | exact Nat.ne_of_gt (And.left (And.right (And.right (And.right (And.right (And.right (And.right (And.right (And.right (And.right (And.right (And.right (And.right (And.right (And.right (by assumption)))))))))))))))) | exact Nat.ne_of_lt (And.left (And.right (And.right (And.right (And.right (And.right (And.right (And.right (And.right (And.right (And.right (And.right (And.right (And.right (And.right (And.right (by assumption))))))))))))))))) | exact Nat.ne_of_gt (And.left (And.right (And.right (And.right (And.right (And.right (And.right (And.right (And.right (And.right (And.right (And.right (And.right (And.right (And.right (And.right (by assumption))))))))))))))))) | exact Nat.ne_of_lt (And.left (And.right (And.right (And.right (And.right (And.right (And.right (And.right (And.right (And.right (And.right (And.right (And.right (And.right (And.right (And.right (And.right (by assumption)))))))))))))))))) | exact Nat.ne_of_gt (And.left (And.right (And.right (And.right (And.right (And.right (And.right (And.right (And.right (And.right (And.right (And.right (And.right (And.right (And.right (And.right (And.right (by assumption)))))))))))))))))) | exact Nat.ne_of_lt (And.left (And.right (And.right (And.right (And.right (And.right (And.right (And.right (And.right (And.right (And.right (And.right (And.right (And.right (And.right (And.right (And.right (And.right (by assumption))))))))))))))))))) | exact Nat.ne_of_gt (And.left (And.right (And.right (And.right (And.right (And.right (And.right (And.right (And.right (And.right (And.right (And.right (And.right (And.right (And.right (And.right (And.right (And.right (by assumption))))))))))))))))))) | exact Nat.ne_of_lt (And.left (And.right (And.right (And.right (And.right (And.right (And.right (And.right (And.right (And.right (And.right (And.right (And.right (And.right (And.right (And.right (And.right (And.right (And.right (by assumption)))))))))))))))))))) | exact Nat.ne_of_gt (And.left (And.right (And.right (And.right (And.right (And.right (And.right (And.right (And.right (And.right (And.right (And.right (And.right (And.right (And.right (And.right (And.right (And.right (And.right (by assumption)))))))))))))))))))) | exact Nat.ne_of_lt (And.left (And.right (And.right (And.right (And.right (And.right (And.right (And.right (And.right (And.right (And.right (And.right (And.right (And.right (And.right (And.right (And.right (And.right (And.right (And.right (by assumption))))))))))))))))))))) | exact Nat.ne_of_gt (And.left (And.right (And.right (And.right (And.right (And.right (And.right (And.right (And.right (And.right (And.right (And.right (And.right (And.right (And.right (And.right (And.right (And.right (And.right (And.right (by assumption)))))))))))))))))))))))
  k_with "my:k_all" => (exact allNe_of (by assumption))
  trivial

section
variable {prog : Program} {w : World} {A : Around} {E : Value → Shared → Prop} {s : Shared} {h₀ : Heap} {L l : Addr} {m : Str → Option Value} {news : Led} {vs : List Value} {ns : List Int} {n j : Nat} {k : Int} {u : Tok}
/-- an item of a list of ints that stands in the ledger -/
theorem item_led {value slice : PySem.Expr} {Q : Value → Shared → Prop} (N : News h₀ L s.heap news) (hm : (l, PySem.W.listOf vs.toArray n) ∈ news) (hI : IntsAre vs ns) (h0 : 0 ≤ k) (h1 : k < ns.length) (hb : ns.length ≤ 1000) (hj : k.toNat = j)
    (h : ∀ t, Q (.int (ns.getD j 0) t) s)
    (hs : subscripted slice false (.ref l) (.int k u) = operate [.ref l, .int k u] (getItem (.ref l) (.int k u)) := by with_unfolding_all rfl) :
    wpAny (model prog w) A (subscriptTail value slice (.ref l) (.int k u)) Q E s := by
  subst hj
  have hl : s.heap.IsList l vs.toArray := News.isList N hm
  have hlen := IntsAre.length hI
  have hk : k.toNat < vs.length := by omega
  obtain ⟨v, hv⟩ : ∃ v, vs[k.toNat]? = some v := ⟨_, List.getElem?_eq_getElem hk⟩
  obtain ⟨t, rfl⟩ := IntsAre.int_at hI _ _ hv
  exact tail_any hl.typeIs slot_list_getitem.lookup (wpAny_getItem_list hl h0 (by omega) (by simpa using hv) (h t)) hs
end
theorem words_Base3 : True := by
  k_with "my:k_mem" => (first | assumption | (refine' List.Mem.tail _ ?_; assumption) | (refine' List.Mem.tail _ (List.Mem.tail _ ?_); assumption) | (refine' List.Mem.tail _ (List.Mem.tail _ (List.Mem.tail _ ?_)); assumption) | (refine' List.Mem.tail _ (List.Mem.tail _ (List.Mem.tail _ (List.Mem.tail _ ?_))); assumption) | (refine' List.Mem.tail _ (List.Mem.tail _ (List.Mem.tail _ (List.Mem.tail _ (List.Mem.tail _ ?_)))); assumption) | (refine' List.Mem.tail _ (List.Mem.tail _ (List.Mem.tail _ (List.Mem.tail _ (List.Mem.tail _ (List.Mem.tail _ ?_))))); assumption))
  k_with "my:subscriptTail" => ((k_here; (with_reducible show wpAny _ _ (subscriptTail _ _ (Value.ref _) (Value.int _ _)) _ _ _); (with_unfolding_all refine' item_led ?k1ₓ ?k2ₓ ?k3ₓ ?k4ₓ ?k5ₓ ?k6ₓ ?k8ₓ ?_ ?k7ₓ; (case k8ₓ => first | exact (rfl : _ = 0) | exact (rfl : _ = 1) | exact (rfl : _ = 2) | exact (rfl : _ = 3) | exact (rfl : _ = 4) | (simp only [Int.toNat_natCast]; rfl) | rfl); (case k1ₓ => k_asm); (case k2ₓ => k_mem); (case k3ₓ => l_ints); (case k4ₓ => first | omega | (rw [fdiv_eq _ (show (0 : Int) < 2 by decide)]; omega)); (case k5ₓ => first | omega | (rw [fdiv_eq _ (show (0 : Int) < 2 by decide)]; omega)); (case k6ₓ => omega); (case k7ₓ => with_unfolding_all rfl); k_whole); intro _))
  k_with "my:subscriptTail Name Name ref int" => ((k_here; (with_reducible show wpAny _ _ (subscriptTail _ _ (Value.ref _) (Value.int _ _)) _ _ _); (with_unfolding_all refine' item_led ?k1ₓ ?k2ₓ ?k3ₓ ?k4ₓ ?k5ₓ ?k6ₓ ?k8ₓ ?_ ?k7ₓ; (case k8ₓ => first | exact (rfl : _ = 0) | exact (rfl : _ = 1) | exact (rfl : _ = 2) | exact (rfl : _ = 3) | exact (rfl : _ = 4) | (simp only [Int.toNat_natCast]; rfl) | rfl); (case k1ₓ => k_asm); (case k2ₓ => k_mem); (case k3ₓ => l_ints); (case k4ₓ => first | omega | (rw [fdiv_eq _ (show (0 : Int) < 2 by decide)]; omega)); (case k5ₓ => first | omega | (rw [fdiv_eq _ (show (0 : Int) < 2 by decide)]; omega)); (case k6ₓ => omega); (case k7ₓ => with_unfolding_all rfl); k_whole); intro _))
  k_with "my:subscriptTail Name BinOp ref int" => ((k_here; (with_reducible show wpAny _ _ (subscriptTail _ _ (Value.ref _) (Value.int _ _)) _ _ _); (with_unfolding_all refine' item_led ?k1ₓ ?k2ₓ ?k3ₓ ?k4ₓ ?k5ₓ ?k6ₓ ?k8ₓ ?_ ?k7ₓ; (case k8ₓ => first | exact (rfl : _ = 0) | exact (rfl : _ = 1) | exact (rfl : _ = 2) | exact (rfl : _ = 3) | exact (rfl : _ = 4) | (simp only [Int.toNat_natCast]; rfl) | rfl); (case k1ₓ => k_asm); (case k2ₓ => k_mem); (case k3ₓ => l_ints); (case k4ₓ => first | omega | (rw [fdiv_eq _ (show (0 : Int) < 2 by decide)]; omega)); (case k5ₓ => first | omega | (rw [fdiv_eq _ (show (0 : Int) < 2 by decide)]; omega)); (case k6ₓ => omega); (case k7ₓ => with_unfolding_all rfl); k_whole); intro _))
  k_with "my:subscriptTail Name Constant ref int" => ((k_here; (with_reducible show wpAny _ _ (subscriptTail _ _ (Value.ref _) (Value.int _ _)) _ _ _); (with_unfolding_all refine' item_led ?k1ₓ ?k2ₓ ?k3ₓ ?k4ₓ ?k5ₓ ?k6ₓ ?k8ₓ ?_ ?k7ₓ; (case k8ₓ => first | exact (rfl : _ = 0) | exact (rfl : _ = 1) | exact (rfl : _ = 2) | exact (rfl : _ = 3) | exact (rfl : _ = 4) | (simp only [Int.toNat_natCast]; rfl) | rfl); (case k1ₓ => k_asm); (case k2ₓ => k_mem); (case k3ₓ => l_ints); (case k4ₓ => first | omega | (rw [fdiv_eq _ (show (0 : Int) < 2 by decide)]; omega)); (case k5ₓ => first | omega | (rw [fdiv_eq _ (show (0 : Int) < 2 by decide)]; omega)); (case k6ₓ => omega); (case k7ₓ => with_unfolding_all rfl); k_whole); intro _))
  trivial
/-! B1 -/
theorem bl_w1 {ns : List Int} {x a b r : Int} (h0 : 0 ≤ a) (h2 : b ≤ ns.length) (e : bl ns x a b = r) (hlt : a < b) (hc : ns.getD ((a + b).fdiv 2).toNat 0 < x) :
    0 ≤ (a + b).fdiv 2 + 1 ∧ (a + b).fdiv 2 + 1 ≤ b ∧ b ≤ ns.length ∧ bl ns x ((a + b).fdiv 2 + 1) b = r := by
  rw [bl_step, if_pos hlt, if_pos hc] at e
  exact ⟨Int.le_trans (Int.le_trans h0 (md_lo hlt)) (Int.le_add_of_nonneg_right (by decide)), Int.add_one_le_of_lt (md_hi hlt), h2, e⟩
theorem bl_w2 {ns : List Int} {x a b r : Int} (h0 : 0 ≤ a) (h2 : b ≤ ns.length) (e : bl ns x a b = r) (hlt : a < b) (hc : ¬ ns.getD ((a + b).fdiv 2).toNat 0 < x) :
    0 ≤ a ∧ a ≤ (a + b).fdiv 2 ∧ (a + b).fdiv 2 ≤ ns.length ∧ bl ns x a ((a + b).fdiv 2) = r := by
  rw [bl_step, if_pos hlt, if_neg hc] at e
  exact ⟨h0, md_lo hlt, Int.le_trans (Int.le_of_lt (md_hi hlt)) h2, e⟩
theorem bl_m1 {a b : Int} (hlt : a < b) : (b - ((a + b).fdiv 2 + 1)).toNat < (b - a).toNat := md_r hlt
theorem bl_m2 {a b : Int} (hlt : a < b) : ((a + b).fdiv 2 - a).toNat < (b - a).toNat := md_l hlt
theorem bl_end {ns : List Int} {x a b r : Int} (e : bl ns x a b = r) (h : ¬ a < b) : a = r := by
  rw [bl_step, if_neg h] at e; exact e

set_option maxHeartbeats 8000000 in
theorem bl_tel (w : World) (mean : ExcName → Option Value) (mg mb : Str → Option Value) (news : Led) (la : Addr) (n : Nat) (vs : List Value) (ns : List Int) (x lo hi : Int) (t1 t2 t3 : Tok)
    (hm : (la, PySem.W.listOf vs.toArray n) ∈ news) (hI : IntsAre vs ns) (h0 : 0 ≤ lo) (h1 : lo ≤ hi) (h2 : hi ≤ ns.length) (hb : ns.length ≤ 1000) :
    Tel w mean mg mb 1 8 41 [.ref la, .int x t1, .int lo t2, .int hi t3] [] news (fun r news' => news' = news ∧ ∃ t, r = .int (bl ns x lo hi) t) := by
  w_top off
  unfold Tel
  k_fill
  intro dp un gd cn cs a ccd cl outer A₀ base h₀ L m s Q E B F X N T hk hd hu hret
  refine wpAny_call ?_
  k_dflt cell_enter
  refine wpAny_noRaise ?_
  k_with "exec While Compare cons nil" => k_while (fun script lo' hi' => 0 ≤ lo' ∧ lo' ≤ hi' ∧ hi' ≤ script.length ∧ bl script x lo' hi' = bl ns x lo hi) (fun script lo' hi' => (hi' - lo').toNat) "lo" "hi"
  k_with "state" => first | exact bl_w1 (by assumption) (by assumption) (by assumption) (by assumption) (by assumption) | exact bl_w2 (by assumption) (by assumption) (by assumption) (by assumption) (by first | assumption | omega)
  k_with "measure" => first | exact bl_m1 (by assumption) | exact bl_m2 (by assumption)
  k_steps
  all_goals exact hret _ news _ _ (by assumption) (by assumption) ⟨rfl, _, congrArg (fun z => Value.int z _) (bl_end (by assumption) (by assumption))⟩
/-! B2 -/
/-- bisect_right's own steps -/
def brF (ns : List Int) (x : Int) : Nat → Int → Int → Int
  | 0, lo, _ => lo
  | k + 1, lo, hi => if lo < hi then (if x < ns.getD ((lo + hi).fdiv 2).toNat 0 then brF ns x k lo ((lo + hi).fdiv 2) else brF ns x k ((lo + hi).fdiv 2 + 1) hi) else lo
def br (ns : List Int) (x lo hi : Int) : Int := brF ns x (hi - lo).toNat lo hi

theorem brF_more (ns : List Int) (x : Int) : ∀ (k j : Nat) (lo hi : Int), (hi - lo).toNat ≤ k → (hi - lo).toNat ≤ j → brF ns x k lo hi = brF ns x j lo hi := by
  intro k
  induction k with
  | zero =>
    intro j lo hi h1 h2
    cases j with
    | zero => rfl
    | succ j => simp only [brF]; rw [if_neg (nt0 h1)]
  | succ k ih =>
    intro j lo hi h1 h2
    cases j with
    | zero => simp only [brF]; rw [if_neg (nt0 h2)]
    | succ j =>
      simp only [brF]
      by_cases h : lo < hi
      · rw [if_pos h, if_pos h]
        split
        · exact ih _ _ _ (Nat.le_of_lt_succ (Nat.lt_of_lt_of_le (md_l h) h1)) (Nat.le_of_lt_succ (Nat.lt_of_lt_of_le (md_l h) h2))
        · exact ih _ _ _ (Nat.le_of_lt_succ (Nat.lt_of_lt_of_le (md_r h) h1)) (Nat.le_of_lt_succ (Nat.lt_of_lt_of_le (md_r h) h2))
      · rw [if_neg h, if_neg h]
theorem br_step (ns : List Int) (x lo hi : Int) : br ns x lo hi = if lo < hi then (if x < ns.getD ((lo + hi).fdiv 2).toNat 0 then br ns x lo ((lo + hi).fdiv 2) else br ns x ((lo + hi).fdiv 2 + 1) hi) else lo := by
  unfold br
  by_cases h : lo < hi
  · rw [if_pos h]
    obtain ⟨k, hk⟩ := nt2 h
    have hr := md_r h
    have hl := md_l h
    rw [hk] at hr hl ⊢
    simp only [brF]
    rw [if_pos h]
    split
    · exact brF_more ns x _ _ _ _ (Nat.le_of_lt_succ hl) (Nat.le_refl _)
    · exact brF_more ns x _ _ _ _ (Nat.le_of_lt_succ hr) (Nat.le_refl _)
  · rw [if_neg h, nt1 h]; rfl
theorem br_w1 {ns : List Int} {x a b r : Int} (h0 : 0 ≤ a) (h2 : b ≤ ns.length) (e : br ns x a b = r) (hlt : a < b) (hc : ¬ x < ns.getD ((a + b).fdiv 2).toNat 0) :
    0 ≤ (a + b).fdiv 2 + 1 ∧ (a + b).fdiv 2 + 1 ≤ b ∧ b ≤ ns.length ∧ br ns x ((a + b).fdiv 2 + 1) b = r := by
  rw [br_step, if_pos hlt, if_neg hc] at e
  exact ⟨Int.le_trans (Int.le_trans h0 (md_lo hlt)) (Int.le_add_of_nonneg_right (by decide)), Int.add_one_le_of_lt (md_hi hlt), h2, e⟩
theorem br_w2 {ns : List Int} {x a b r : Int} (h0 : 0 ≤ a) (h2 : b ≤ ns.length) (e : br ns x a b = r) (hlt : a < b) (hc : x < ns.getD ((a + b).fdiv 2).toNat 0) :
    0 ≤ a ∧ a ≤ (a + b).fdiv 2 ∧ (a + b).fdiv 2 ≤ ns.length ∧ br ns x a ((a + b).fdiv 2) = r := by
  rw [br_step, if_pos hlt, if_pos hc] at e
  exact ⟨h0, md_lo hlt, Int.le_trans (Int.le_of_lt (md_hi hlt)) h2, e⟩
theorem br_end {ns : List Int} {x a b r : Int} (e : br ns x a b = r) (h : ¬ a < b) : a = r := by
  rw [br_step, if_neg h] at e; exact e

set_option maxHeartbeats 8000000 in
theorem br_tel (w : World) (mean : ExcName → Option Value) (mg mb : Str → Option Value) (news : Led) (la : Addr) (n : Nat) (vs : List Value) (ns : List Int) (x : Int) (t1 t2 : Tok)
    (hm : (la, PySem.W.listOf vs.toArray n) ∈ news) (hI : IntsAre vs ns) (hb : ns.length ≤ 1000) :
    Tel w mean mg mb 1 8 32 [.ref la, .int x t1, .int 0 t2, .none] [] news (fun r news' => news' = news ∧ ∃ t, r = .int (br ns x 0 ns.length) t) := by
  w_top off
  unfold Tel
  k_fill
  intro dp un gd cn cs a ccd cl outer A₀ base h₀ L m s Q E B F X N T hk hd hu hret
  refine wpAny_call ?_
  k_dflt cell_enter
  refine wpAny_noRaise ?_
  k_with "exec While Compare cons nil" => k_while (fun script lo' hi' => 0 ≤ lo' ∧ lo' ≤ hi' ∧ hi' ≤ script.length ∧ br script x lo' hi' = br ns x 0 ns.length) (fun script lo' hi' => (hi' - lo').toNat) "lo" "hi"
  k_with "state" => first | exact br_w1 (by assumption) (by assumption) (by assumption) (by assumption) (by first | assumption | omega) | exact br_w2 (by assumption) (by assumption) (by assumption) (by assumption) (by assumption)
  k_with "measure" => first | exact bl_m1 (by assumption) | exact bl_m2 (by assumption)
  k_steps
  all_goals first | exact hret _ news _ _ (by assumption) (by assumption) ⟨rfl, _, congrArg (fun z => Value.int z _) (br_end (by assumption) (by assumption))⟩
open PyProof.V
/-! L1 -/
section
variable {prog : Program} {w : World} {A : Around} {E : Value → Shared → Prop} {s : Shared} {env : Env} {h₀ : Heap} {target : Expr} {body : List Stmt} {Q : Flow → Shared → Prop}
/-- a loop's items by what holds between the turns: of the rest of the items, the names, the ledger -/
theorem items_inv {ws : List (Addr × String)} {keep : Led} (J : List Itm → (Str → Option Value) → Led → Prop) :
    ∀ (xs : List Itm) (m : Str → Option Value) (news : Led), J xs m news →
    (∀ a r m₁ n₁ v h tk, J (a :: r) m₁ n₁ → a.Is v h → Fr h₀ env.locals h m₁ → AllObj ws (fun its => News h₀ env.locals h (its ++ n₁) →
      wpAny (model prog w) A (assign target env v) (fun _ s₂ => wpAny (model prog w) A (execs body env) (UnrPostW h₀ env.locals { s with heap := h, toks := tk } its (fun m' n' => SubL keep n' ∧ J r m' n') Q) E s₂) E { s with heap := h, toks := tk })) →
    (∀ m₁ n₁ h tk, J [] m₁ n₁ → Fr h₀ env.locals h m₁ → News h₀ env.locals h n₁ → Q .next { s with heap := h, toks := tk }) →
    ItemsRest prog w A E h₀ env target body Q s ws keep xs m news := by
  intro xs
  induction xs with
  | nil =>
    intro m news hj _ done
    exact ItemsRest.zero fun h tk F N => done m news h tk hj F N
  | cons a r ih =>
    intro m news hj turn done
    intro v h tk hv F
    have ht := turn a r m news v h tk hj hv F
    have mono : ∀ (ws : List (Addr × String)) (k k' : Led → Prop), (∀ its, k its → k' its) → AllObj ws k → AllObj ws k' := by
      intro ws
      induction ws with
      | nil => intro k k' hk x; exact hk _ x
      | cons q rs ih => intro k k' hk x o ho; exact ih _ _ (fun its y => hk _ y) (x o ho)
    refine mono _ _ _ (fun its x N => ?_) ht
    refine wpAny_mono (x N) (fun _ s₂ y => wpAny_mono y (fun f s₃ z => ?_) fun _ _ e => e) fun _ _ e => e
    have up : UnrEndW h₀ env.locals { s with heap := h, toks := tk } its (fun m' n' => SubL keep n' ∧ J r m' n') s₃ → UnrEndW h₀ env.locals { s with heap := h, toks := tk } its (fun m' n' => SubL keep n' ∧ ItemsRest prog w A E h₀ env target body Q s ws keep r m' n') s₃ := by
      rintro ⟨h', tk', m', news', e, F', N', off, hk, hJ⟩
      exact ⟨h', tk', m', news', e, F', N', off, hk, ih m' news' hJ turn done⟩
    cases f with
    | ret v => exact z
    | brk => exact z
    | next => exact up z
    | cont => exact up z
end

section
variable {prog : Program} {w : World} {A : Around} {E : Value → Shared → Prop} {s : Shared} {env : Env} {h₀ : Heap} {target : Expr} {body : List Stmt} {Q : Flow → Shared → Prop}
/-- what a loop's turn leaves: a state c', told by the ledger Ld c' and the names ps c' -/
def Left {σ : Type} (Ld : σ → Led) (ps : σ → List (Str × Value)) (stored : List Str) (m₀ : Str → Option Value) (R : σ → Prop) (m' : Str → Option Value) (n' : Led) : Prop :=
  ∃ c' : σ, n' = Ld c' ∧ R c' ∧ (∀ p ∈ ps c', m' p.1 = some p.2) ∧ ∀ z, (∀ p ∈ ps c', z ≠ p.1) → stored.contains z = false → m' z = m₀ z
theorem left_fr {L : Addr} {h : Heap} {ps : List (Str × Value)} {stored : List Str} {m₀ m₁ : Str → Option Value} (h1 : ∀ p ∈ ps, m₁ p.1 = some p.2) (h2 : ∀ z, (∀ p ∈ ps, z ≠ p.1) → stored.contains z = false → m₁ z = m₀ z)
    (F : Fr h₀ L h m₁) : Fr h₀ L h (kstB (fun z => if stored.contains z then m₁ z else m₀ z) ps) := by
  have em : kstB (fun z => if stored.contains z then m₁ z else m₀ z) ps = m₁ := by
    funext y
    refine kstB_eq h1 fun hn => ?_
    show (if stored.contains y = true then m₁ y else m₀ y) = m₁ y
    cases h3 : stored.contains y with
    | true => simp
    | false => simp only [Bool.false_eq_true, if_false]; exact (h2 y hn h3).symm
  rw [em]
  exact F
theorem items_st {σ : Type} {ws : List (Addr × String)} {keep : Led} {xs : List Itm} {m₀ : Str → Option Value} {news : Led} (Ld : σ → Led) (ps : σ → List (Str × Value)) (stored : List Str) (R : List Itm → σ → Prop) (c₀ : σ)
    (hn : news = Ld c₀) (hk : ∀ p ∈ ps c₀, m₀ p.1 = some p.2) (hr : R xs c₀)
    (turn : ∀ a r c (u : Str → Option Value) v h tk, R (a :: r) c → a.Is v h → Fr h₀ env.locals h (kstB (fun z => if stored.contains z then u z else m₀ z) (ps c)) → AllObj ws (fun its => News h₀ env.locals h (its ++ Ld c) →
      wpAny (model prog w) A (assign target env v) (fun _ s₂ => wpAny (model prog w) A (execs body env) (UnrPostW h₀ env.locals { s with heap := h, toks := tk } its (fun m' n' => SubL keep n' ∧ Left Ld ps stored m₀ (R r) m' n') Q) E s₂) E { s with heap := h, toks := tk }))
    (done : ∀ c (u : Str → Option Value) h tk, R [] c → Fr h₀ env.locals h (kstB (fun z => if stored.contains z then u z else m₀ z) (ps c)) → News h₀ env.locals h (Ld c) → Q .next { s with heap := h, toks := tk }) :
    ItemsRest prog w A E h₀ env target body Q s ws keep xs m₀ news := by
  refine items_inv (fun r m n => Left Ld ps stored m₀ (R r) m n) xs m₀ news ⟨c₀, hn, hr, hk, fun _ _ _ => rfl⟩ ?_ ?_
  · rintro a r m₁ n₁ v h tk ⟨c, rfl, hR, h1, h2⟩ hv F
    exact turn a r c m₁ v h tk hR hv (left_fr h1 h2 F)
  · rintro m₁ n₁ h tk ⟨c, rfl, hR, h1, h2⟩ F N
    exact done c m₁ h tk hR (left_fr h1 h2 F) N
/-- an end of a turn of a loop with one object of its own -/
theorem turn_end {σ : Type} {Ld : σ → Led} {ps : σ → List (Str × Value)} {stored : List Str} {m₀ : Str → Option Value} {R : σ → Prop} {keep : Led} {L : Addr} {s₁ : Shared} {I : Addr} {o : Obj} {h' : Heap} {tk : Nat} {m' : Str → Option Value} {all : Led} (c' : σ)
    (F : Fr h₀ L h' m') (N : News h₀ L h' all) (hI : (I, o) ∈ all) (hsub : ∀ p ∈ Ld c', p ∈ all) (off : ∀ p ∈ Ld c', p.1 ≠ I) (hkeep : SubL keep (Ld c')) (hR : R c')
    (hk : ∀ p ∈ ps c', m' p.1 = some p.2) (hz : ∀ z, (∀ p ∈ ps c', z ≠ p.1) → stored.contains z = false → m' z = m₀ z) :
    UnrEndW h₀ L s₁ [(I, o)] (fun m' n' => SubL keep n' ∧ Left Ld ps stored m₀ R m' n') { s₁ with heap := h', toks := tk } :=
  ⟨h', tk, m', Ld c', rfl, F, fun p hp => by
    rcases List.mem_append.mp hp with hp | hp
    · rw [List.mem_singleton.mp hp]; exact N _ hI
    · exact N p (hsub p hp), fun p hp q hq => by rw [List.mem_singleton.mp hq]; exact off p hp, hkeep, c', rfl, hR, hk, hz⟩
end

theorem words_L11 : True := by
  k_with "my:exec For Name Call cons nil" => ((k_here; (rename Fr _ _ _ _ => lFₓ); (rename News _ _ _ _ => lNₓ); with_unfolding_all ((refine' For_turns lFₓ ?_); k_whole; (refine MethodCall_ ?_); (refine ld lFₓ (by rfl) ?_); (refine getMethod_tab (knd := PySem.intKind _ _) (enc := PyData.int) PySem.F.slot_dict_values PySem.F.type_dict_values (by k_tabat) ?_); (refine callWith_method0 ?_); (refine call_values_tab (knd := PySem.intKind _ _) (enc := PyData.int) (by k_tabat) lFₓ lNₓ ?_); intro hₓ oₓ hvₓ Fₓ Nₓ; (replace Nₓ := kti_tail Nₓ); (refine kti_vals (knd := PySem.intKind _ _) (enc := PyData.int) (by rfl) Fₓ Nₓ hvₓ (by k_tabat) (by k_mem) rfl ?_)); clear lFₓ lNₓ; intro iₓ l1ₓ))
  trivial

theorem words_L12 : True := by
  k_with "my:ksw_same" => ((intro zₓ h2ₓ h3ₓ; (simp only [List.forall_mem_cons, List.not_mem_nil, false_implies, implies_true, and_true, ne_eq] at h2ₓ); (simp only [List.contains_cons, List.contains_nil, Bool.or_false, Bool.or_eq_false_iff, beq_eq_false_iff_ne, ne_eq] at h3ₓ); (simp [kstB, h2ₓ, h3ₓ]; done)))
  trivial

set_option maxHeartbeats 8000000 in
theorem cc_tel (w : World) (mean : ExcName → Option Value) (mg mb : Str → Option Value) (news : Led) (d : Addr) (o : Obj) (c : List (Int × Int)) (kvs : List (Int × Value))
    (hm : (d, o) ∈ news) (hd : o.IsDictOf (PySem.intKind PySem.Challenge.rw_wf0032_01.row.prog w) kvs) (hf : FlatPairs PyData.int kvs (kdfD c)) (hl : c.length ≤ 100) (lo : (d == sysModules) = false) :
    Tel w mean mg mb 1 8 83 [.ref d] [] news (fun r news' => news' = news ∧ ∃ t, r = .int ((c.map (·.2)).sum) t) := by
  w_top off
  unfold Tel
  k_fill
  intro dp un gd cn cs a ccd cl outer A₀ base h₀ L m s Q E B F X N T hk hdd hu hret
  refine wpAny_call ?_
  k_dflt cell_enter
  refine wpAny_noRaise ?_
  refine wp_abs fun Q0 hQ0 => ?_
  k_steps
  refine items_st (σ := List (Int × Int) × Int × Tok) (fun _ => news) (fun q => [(Str.ofString "nc", .int q.2.1 q.2.2)]) [Str.ofString "calls"] (fun r q => r = (kdfD q.1).map (fun p => Itm.flat p.2) ∧ q.2.1 + (q.1.map (·.2)).sum = (c.map (·.2)).sum) (c, 0, _) rfl (by kst_all) ⟨rfl, by simp⟩ ?_ ?_
  · rintro a r ⟨c', acc, t⟩ u v h tk hx97 hv F1
    refine allObj1 fun o' ho' N1 => ?_
    refine goal_abs fun hG9 => ?_
    obtain ⟨hr, hs⟩ := hx97
    cases c' with
    | nil => cases hr
    | cons p c' =>
      obtain ⟨rfl, rfl⟩ := List.cons.inj hr
      obtain ⟨t2, rfl⟩ := Flat.int_inv hv
      dsimp only [List.cons_append, List.nil_append] at N1
      refine hG9 ?_
      clear hG9
      refine turn_abs fun Q9 hQ9 => ?_
      k_steps
      subst hQ9
      refine' turn_end (c', _, _) (by assumption) (by assumption) (.head _) (fun p hp => .tail _ hp) (fun p hp => Nat.ne_of_lt (l1ₓ p hp)) ⟨hm, trivial⟩ ?r ?k ?z
      case k => kst_all
      case z => ksw_same
      exact ⟨rfl, by simp only [List.map_cons, List.sum_cons] at hs ⊢; omega⟩
  · rintro ⟨c', acc, t⟩ u h tk hx94 F1 N1
    refine goal_abs fun hG9 => ?_
    obtain ⟨hr, hs⟩ := hx94
    cases c' with
    | cons p c' => cases hr
    | nil =>
      refine hG9 ?_
      clear hG9
      subst hQ0
      k_steps
      all_goals exact hret _ news _ _ (by assumption) (by assumption) ⟨rfl, _, congrArg (fun z => Value.int z _) (by simpa using hs)⟩
/-! D1 -/
/-- a dict of ints by ints -/
def DictIs (w : World) (o : Obj) (c : List (Int × Int)) : Prop := ∃ kvs, o.IsDictOf (PySem.intKind PySem.Challenge.rw_wf0032_01.row.prog w) kvs ∧ FlatPairs PyData.int kvs (kdfD c)
def addIn (acc : List (Int × Int)) (p : Int × Int) : List (Int × Int) := kdfPut acc p.1 (if kdfHas acc p.1 = true then kdfLook acc p.1 0 + p.2 else p.2)
def putIn (acc : List (Int × Int)) (p : Int × Int) : List (Int × Int) := kdfPut acc p.1 p.2
def addC (c c2 : List (Int × Int)) : List (Int × Int) := c2.foldl addIn (c.foldl putIn [])

theorem words_D11 : True := by
  k_with "my:exec For Tuple Call cons nil" => ((k_here; (rename Fr _ _ _ _ => lFₓ); (rename News _ _ _ _ => lNₓ); with_unfolding_all ((refine' For_turns lFₓ ?_); k_whole; (refine MethodCall_ ?_); (refine ld lFₓ (by rfl) ?_); (refine getMethod_tab (knd := PySem.intKind _ _) (enc := PyData.int) PySem.F.slot_dict_items PySem.F.type_dict_items (by k_tabat) ?_); (refine callWith_method0 ?_); (refine call_items_tab (knd := PySem.intKind _ _) (enc := PyData.int) (by k_tabat) lFₓ lNₓ ?_); intro hₓ oₓ hvₓ Fₓ Nₓ; (replace Nₓ := kti_tail Nₓ); (refine kti_items (knd := PySem.intKind _ _) (enc := PyData.int) (by rfl) Fₓ Nₓ hvₓ (by k_tabat) (by k_mem) (fun _ _ h => Value.isInt_shape h) rfl ?_)); clear lFₓ lNₓ; intro iₓ l1ₓ))
  trivial

theorem words_D12 : True := by
  k_with "my:setItem ref int" => ((k_here; (with_reducible show wpAny _ _ (setItem (Value.ref _) (Value.int _ _) (Value.int _ _)) _ _ _); k_dflt (refine' kdf_setItem ?Fₓ ?Nₓ ?Uₓ ?dₓ ?fₓ ?cₓ ?_; (case Fₓ => k_asm); (case Nₓ => k_asm); (case Uₓ => k_updF); (case dₓ => assumption); (case fₓ => assumption); (case cₓ => omega)); intro hₓ oₓ kvsₓ Fₓ Nₓ hdₓ hfₓ; (try dsimp only at Nₓ)))
  trivial

theorem words_D13 : True := by
  k_with "my:getItem ref int" => ((k_here; (with_reducible show wpAny _ _ (getItem (Value.ref _) (Value.int _ _)) _ _ _); k_dflt (refine' getItem_tab PyProof.V.same_int (intKind_is _ _ _ _) ?k1ₓ (kdfD_item ?k2ₓ) ?_; (case k1ₓ => exact TabAt.ofNews (by k_asm) (by k_mem) (by assumption) (by assumption) (by assumption)); (case k2ₓ => assumption)); intro _ hvₓ; dict_open hvₓ))
  trivial

set_option maxHeartbeats 8000000 in
theorem addc_tel (w : World) (mean : ExcName → Option Value) (mg mb : Str → Option Value) (news : Led) (d e : Addr) (o o2 : Obj) (c c2 : List (Int × Int)) (kvs kvs2 : List (Int × Value))
    (hm : (d, o) ∈ news) (hd : o.IsDictOf (PySem.intKind PySem.Challenge.rw_wf0032_01.row.prog w) kvs) (hf : FlatPairs PyData.int kvs (kdfD c)) (hl : c.length ≤ 100) (lo : (d == sysModules) = false)
    (hm2 : (e, o2) ∈ news) (hd2 : o2.IsDictOf (PySem.intKind PySem.Challenge.rw_wf0032_01.row.prog w) kvs2) (hf2 : FlatPairs PyData.int kvs2 (kdfD c2)) (hl2 : c2.length ≤ 100) (lo2 : (e == sysModules) = false) :
    Tel w mean mg mb 1 8 76 [.ref d, .ref e] [] news (fun r news' => ∃ l o', r = .ref l ∧ news' = (l, o') :: news ∧ (l == sysModules) = false ∧ (∀ p ∈ news, p.1 < l) ∧ DictIs w o' (addC c c2)) := by
  w_top off
  unfold Tel
  k_fill
  intro dp un gd cn cs a ccd cl outer A₀ base h₀ L m s Q E B F X N T hk hdd hu hret
  refine wpAny_call ?_
  k_dflt cell_enter
  refine wpAny_noRaise ?_
  refine wp_abs fun Q0 hQ0 => ?_
  k_steps
  rename_i d1 _ o1 l1 lo1 _ _ hi1 fi1 _
  refine items_st (σ := List (Int × Int) × List (Int × Int) × Obj) (fun q => (d1, q.2.2) :: news) (fun _ => []) [Str.ofString "func", Str.ofString "caller"]
    (fun r q => r = (kdfD q.1).map (fun p => Itm.pairF (kyVal p.1) p.2) ∧ q.1.foldl putIn q.2.1 = c.foldl putIn [] ∧ q.2.1.length + q.1.length ≤ 100 ∧ DictIs w q.2.2 q.2.1) (c, [], o1) rfl (by kst_all) ⟨rfl, rfl, by simpa using hl, _, hi1, fi1⟩ ?_ ?_
  · rintro a r ⟨c', dn, ob⟩ u v h tk hx97 hv F1
    refine allObj1 fun o' ho' N1 => ?_
    refine goal_abs fun hG9 => ?_
    obtain ⟨hr, hs, hlen, kv1, hk1, hk2⟩ := hx97
    cases c' with
    | nil => cases hr
    | cons p c' =>
      obtain ⟨rfl, rfl⟩ := List.cons.inj hr
      obtain ⟨T1, t1, x1, rfl, hx1, hT1⟩ := hv
      obtain ⟨t2, rfl⟩ := Flat.int_inv hx1
      dsimp only [List.cons_append, List.nil_append, kyVal] at N1 hT1 hs hlen hk1 hk2
      simp only [List.length_cons] at hlen
      have hlt := ltN (l1ₓ _ (.head _))
      have l3 : ∀ p ∈ news, p.1 < iₓ := fun p hp => l1ₓ p (.tail _ hp)
      dsimp only at hlt
      refine hG9 ?_
      clear hG9
      refine turn_abs fun Q9 hQ9 => ?_
      k_steps
      subst hQ9
      refine' turn_end (c', kdfPut dn p.1 p.2, _) (by assumption) (by assumption) (.head _) (fun p hp => .tail _ hp) (List.forall_mem_cons.mpr ⟨by k_ne, allNe_of l3⟩) ⟨.tail _ hm, trivial⟩ ?r ?k ?z
      case k => kst_all
      case z => ksw_same
      exact ⟨rfl, hs, by have := kdfPut_len dn p.1 p.2; dsimp only; omega, _, hdₓ, hfₓ⟩
  · rintro ⟨c', dn, ob⟩ u h tk hx94 F1 N1
    refine goal_abs fun hG9 => ?_
    obtain ⟨hr, hs, hlen, kv1, hk1, hk2⟩ := hx94
    cases c' with
    | cons p c' => cases hr
    | nil =>
      dsimp only at hs hlen hk1 hk2 N1
      refine hG9 ?_
      clear hG9
      k_steps
      refine items_st (σ := List (Int × Int) × List (Int × Int) × Obj) (fun q => (d1, q.2.2) :: news) (fun _ => []) [Str.ofString "func", Str.ofString "caller"]
        (fun r q => r = (kdfD q.1).map (fun p => Itm.pairF (kyVal p.1) p.2) ∧ q.1.foldl addIn q.2.1 = addC c c2 ∧ q.2.1.length + q.1.length ≤ 200 ∧ DictIs w q.2.2 q.2.1) (c2, dn, ob) rfl (by kst_all) ⟨rfl, by rw [show dn = c.foldl putIn [] from hs]; rfl, by simp only [List.length_nil] at hlen; dsimp only; omega, _, hk1, hk2⟩ ?_ ?_
      · rintro a r ⟨c', dn, ob⟩ u v h tk hx97 hv F1
        refine allObj1 fun o' ho' N1 => ?_
        refine goal_abs fun hG9 => ?_
        obtain ⟨hr, hs, hlen, kv1, hk1, hk2⟩ := hx97
        cases c' with
        | nil => cases hr
        | cons p c' =>
          obtain ⟨rfl, rfl⟩ := List.cons.inj hr
          obtain ⟨T1, t1, x1, rfl, hx1, hT1⟩ := hv
          obtain ⟨t2, rfl⟩ := Flat.int_inv hx1
          dsimp only [List.cons_append, List.nil_append, kyVal] at N1 hT1 hs hlen hk1 hk2
          simp only [List.length_cons] at hlen
          have hlt := ltN (l1ₓ _ (.head _))
          have l5 : ∀ p ∈ news, p.1 < iₓ := fun p hp => l1ₓ p (.tail _ hp)
          dsimp only at hlt
          refine hG9 ?_
          clear hG9
          refine turn_abs fun Q9 hQ9 => ?_
          k_steps
          · subst hQ9
            refine' turn_end (c', kdfPut dn p.1 (kdfLook dn p.1 0 + p.2), _) (by assumption) (by assumption) (.head _) (fun p hp => .tail _ hp) (List.forall_mem_cons.mpr ⟨by k_ne, allNe_of l5⟩) ⟨.tail _ hm2, trivial⟩ ?r2 ?k2 ?z2
            case k2 => kst_all
            case z2 => ksw_same
            exact ⟨rfl, by rw [← hs, List.foldl_cons]; unfold addIn; rw [if_pos (by assumption)], by have := kdfPut_len dn p.1 (kdfLook dn p.1 0 + p.2); dsimp only; omega, _, hdₓ, hfₓ⟩
          · subst hQ9
            refine' turn_end (c', kdfPut dn p.1 p.2, _) (by assumption) (by assumption) (.head _) (fun p hp => .tail _ hp) (List.forall_mem_cons.mpr ⟨by k_ne, allNe_of l5⟩) ⟨.tail _ hm2, trivial⟩ ?r3 ?k3 ?z3
            case k3 => kst_all
            case z3 => ksw_same
            exact ⟨rfl, by rw [← hs, List.foldl_cons]; unfold addIn; rw [if_neg (by simp_all)], by have := kdfPut_len dn p.1 p.2; dsimp only; omega, _, hdₓ, hfₓ⟩
      · rintro ⟨c', dn, ob⟩ u h tk hx94 F1 N1
        refine goal_abs fun hG9 => ?_
        obtain ⟨hr, hs, hlen, kv1, hk1, hk2⟩ := hx94
        cases c' with
        | cons p c' => cases hr
        | nil =>
          dsimp only at hs hlen hk1 hk2 N1
          refine hG9 ?_
          clear hG9
          subst hQ0
          k_steps
          exact hret _ _ _ _ (by assumption) (by assumption) ⟨d1, ob, rfl, rfl, lo1, l1, _, hk1, (show dn = addC c c2 from hs) ▸ hk2⟩
/-! C1 -/
abbrev tupO (vs : List Value) (n : Nat) : Obj := { cls := .type "tuple", data := .seq vs.toArray n }
section
variable {prog : Program} {w : World} {A : Around} {E : Value → Shared → Prop} {s : Shared} {h₀ : Heap} {L l : Addr} {m : Str → Option Value} {news : Led} {vs : List Value} {ns : List Int} {n j : Nat} {k : Int} {u : Tok}
/-- an item of a tuple of ints that stands in the ledger -/
theorem item_tup {value slice : PySem.Expr} {Q : Value → Shared → Prop} (N : News h₀ L s.heap news) (hm : (l, tupO vs n) ∈ news) (hI : IntsAre vs ns) (h0 : 0 ≤ k) (h1 : k < ns.length) (hb : ns.length ≤ 1000) (hjj : k.toNat = j)
    (h : ∀ t, Q (.int (ns.getD j 0) t) s)
    (hs : subscripted slice false (.ref l) (.int k u) = operate [.ref l, .int k u] (getItem (.ref l) (.int k u)) := by with_unfolding_all rfl) :
    wpAny (model prog w) A (subscriptTail value slice (.ref l) (.int k u)) Q E s := by
  subst hjj
  have hl : IsTup s.heap l vs.toArray := News.isTup N hm
  have hlen := IntsAre.length hI
  have hk : k.toNat < vs.length := by omega
  obtain ⟨v, hv⟩ : ∃ v, vs[k.toNat]? = some v := ⟨_, List.getElem?_eq_getElem hk⟩
  obtain ⟨t, rfl⟩ := IntsAre.int_at hI _ _ hv
  have hj : seqIndex? k vs.length = some k.toNat := by
    unfold seqIndex?
    simp only [h0, if_true]
    split <;> simp_all <;> omega
  exact item_tupleT hl (by omega) (by omega) hj hv (h t) hs
end
theorem words_C11 : True := by
  k_with "my:subscriptTail" => ((k_here; (with_reducible show wpAny _ _ (subscriptTail _ _ (Value.ref _) (Value.int _ _)) _ _ _); (with_unfolding_all refine' item_tup ?k1ₓ ?k2ₓ ?k3ₓ ?k4ₓ ?k5ₓ ?k6ₓ ?k8ₓ ?_ ?k7ₓ; (case k8ₓ => first | exact (rfl : _ = 0) | exact (rfl : _ = 1) | exact (rfl : _ = 2) | exact (rfl : _ = 3) | exact (rfl : _ = 4) | (simp only [Int.toNat_natCast]; rfl) | rfl); (case k1ₓ => k_asm); (case k2ₓ => k_mem); (case k3ₓ => l_ints); (case k4ₓ => omega); (case k5ₓ => omega); (case k6ₓ => omega); (case k7ₓ => with_unfolding_all rfl); k_whole); intro _))
  k_with "my:exec For Tuple Attribute cons nil" => ((k_here; (rename Fr _ _ _ _ => lFₓ); (with_unfolding_all refine' For_turns lFₓ ?_); k_whole))
  trivial
/-! C2 -/
/-- compare's own steps: the first column that parts two rows -/
def cmpL : List Int → List Int → Int
  | a :: as, b :: bs => if a < b then -1 else if b < a then 1 else cmpL as bs
  | _, _ => 0
/-- the columns that judge looks at: pairs of a place and 1 -/
inductive Cols (news : Led) (ja : Addr) : Prop
  | mk (jd lc : Addr) (hs : Int) (t0 : Tok) (n1 n2 : Nat) (ps : List Addr) (x0 : (ja, instObj 65 jd) ∈ news) (x1 : (jd, dictOf [⟨hs, .str (Str.ofString "comp_select_list") t0, .ref lc⟩] n1) ∈ news) (x2 : (lc, PySem.W.listOf (ps.map Value.ref).toArray n2) ∈ news) (x3 : ps.length = 6) (x4 : ∀ k p, ps[k]? = some p → ∃ t u n, (p, tupO [.int (k : Nat) t, .int 1 u] n) ∈ news)

theorem cmpL_step {xs ys : List Int} {k : Nat} (h1 : k < xs.length) (h2 : k < ys.length) :
    cmpL (xs.drop k) (ys.drop k) = if xs.getD k 0 < ys.getD k 0 then -1 else if ys.getD k 0 < xs.getD k 0 then 1 else cmpL (xs.drop (k + 1)) (ys.drop (k + 1)) := by
  rw [List.drop_eq_getElem_cons h1, List.drop_eq_getElem_cons h2]
  simp [cmpL, List.getD, h1, h2]

set_option maxHeartbeats 8000000 in
theorem cmp_tel (w : World) (mean : ExcName → Option Value) (mg mb : Str → Option Value) (news : Led) (ja ra rb : Addr) (xs ys : List Int) (vx vy : List Value) (nx ny : Nat)
    (hc : Cols news ja) (ha : (ra, tupO vx nx) ∈ news) (hax : IntsAre vx xs) (hlx : xs.length = 6) (hb : (rb, tupO vy ny) ∈ news) (hby : IntsAre vy ys) (hly : ys.length = 6) :
    Tel w mean mg mb 1 8 62 [.ref ja, .ref ra, .ref rb] [] news (fun r news' => news' = news ∧ ∃ t, r = .int (cmpL xs ys) t) := by
  w_top off
  unfold Tel
  k_fill
  intro dp un gd cn cs a ccd cl outer A₀ base h₀ L m s Q E B F X N T hk hd hu hret
  obtain ⟨jd, lc, hs, t0, n1, n2, ps, hj, hjd, hlc, hps, hcols⟩ := hc
  refine wpAny_call ?_
  k_dflt cell_enter
  refine wpAny_noRaise ?_
  refine wp_abs fun Q0 hQ0 => ?_
  k_steps
  rename Fr _ _ _ _ => F1
  rename News _ _ _ _ => N1
  with_unfolding_all refine iter_listTurns (by rfl) F1 N1 hlc rfl rfl ?_
  intro i1 l1
  refine items_st (σ := List Addr) (fun _ => news) (fun _ => []) [Str.ofString "index", Str.ofString "direction", Str.ofString "l", Str.ofString "r"]
    (fun r q => r = (q.map Value.ref).map Itm.val ∧ ∃ k, q = ps.drop k ∧ cmpL (xs.drop k) (ys.drop k) = cmpL xs ys) ps rfl (by kst_all) ⟨rfl, 0, rfl, rfl⟩ ?_ ?_
  · rintro a r q u v h tk hx97 hv F1
    refine allObj1 fun o' ho' N1 => ?_
    refine goal_abs fun hG9 => ?_
    obtain ⟨hr, k, hq, hs⟩ := hx97
    cases q with
    | nil => cases hr
    | cons p q =>
      obtain ⟨rfl, rfl⟩ := List.cons.inj hr
      obtain rfl : v = .ref p := hv
      have hk : k < ps.length := by
        rcases Nat.lt_or_ge k ps.length with hk | hk
        · exact hk
        · rw [List.drop_eq_nil_of_le hk] at hq; cases hq
      rw [List.drop_eq_getElem_cons hk] at hq
      obtain ⟨rfl, rfl⟩ := List.cons.inj hq
      obtain ⟨t1, u1, m1, hcol⟩ := hcols k _ (List.getElem?_eq_getElem hk)
      dsimp only [List.cons_append, List.nil_append] at N1
      have hT1 : IsTup h ps[k] #[.int (k : Nat) t1, .int 1 u1] := News.isTup N1 (.tail _ hcol)
      rw [cmpL_step (by omega) (by omega)] at hs
      refine hG9 ?_
      clear hG9
      subst hQ0
      k_steps
      · have a1 : xs.getD k 0 < ys.getD k 0 := by assumption
        rw [if_pos a1] at hs
        exact hret _ news _ _ (by assumption) (kti_tail (by assumption)) ⟨rfl, _, congrArg (fun z => Value.int z _) hs⟩
      · have a1 : ¬ xs.getD k 0 < ys.getD k 0 := by assumption
        have a2 : ys.getD k 0 < xs.getD k 0 := by assumption
        rw [if_neg a1, if_pos a2] at hs
        exact hret _ news _ _ (by assumption) (kti_tail (by assumption)) ⟨rfl, _, congrArg (fun z => Value.int z _) hs⟩
      · have a1 : ¬ xs.getD k 0 < ys.getD k 0 := by assumption
        have a2 : ¬ ys.getD k 0 < xs.getD k 0 := by assumption
        rw [if_neg a1, if_neg a2] at hs
        refine' turn_end (ps.drop (k + 1)) (by assumption) (by assumption) (.head _) (fun p hp => .tail _ hp) (allNe_of l1) ⟨hlc, trivial⟩ ?r1 ?k1 ?z1
        case k1 => kst_all
        case z1 => ksw_same
        exact ⟨rfl, k + 1, rfl, hs⟩
  · rintro q u h tk hx94 F1 N1
    refine goal_abs fun hG9 => ?_
    obtain ⟨hr, k, hq, hs⟩ := hx94
    cases q with
    | cons p q => cases hr
    | nil =>
      refine hG9 ?_
      clear hG9
      subst hQ0
      k_steps
      have e : (0 : Int) = cmpL xs ys := by
        rw [← hs]
        have h6 : 6 ≤ k := by
          have := congrArg List.length hq
          simp only [List.length_nil, List.length_drop] at this
          omega
        rw [List.drop_eq_nil_of_le (by omega : xs.length ≤ k)]
        rfl
      exact hret _ news _ _ (by assumption) (by assumption) ⟨rfl, _, congrArg (fun z => Value.int z _) e⟩
/-! E1 -/
theorem tel_use {w : World} {mean : ExcName → Option Value} {mg mb : Str → Option Value} {D U : Nat} {f : Addr} {vs : List Value} {kw : List (Str × Value)} {news : Led} {Post : Value → Led → Prop}
    {dp un : Nat} {gd : Option (List Code)} {cn : Str} {cs : Scope} {a : Addr} {ccd : Value} {cl : List (Str × Addr)} {outer : List Env} {A₀ : Around} {base h₀ : Heap} {L : Addr} {m : Str → Option Value} {s : Shared} {Q E : Value → Shared → Prop}
    (B : Below A₀ base outer h₀) (F : Fr h₀ L s.heap m) (X : (Mine.hd.heap_1 w.params).In h₀) (N : News h₀ L s.heap news) (T : Top Mine.hd.view_1 [Str.ofString "insort_right", Str.ofString "bisect_right", Str.ofString "bisect_left"] mean mg mb h₀) (hk : cs.kind = .function)
    (C : Tel w mean mg mb D U f vs kw news Post) (hd : dp + D < recursionLimit) (hu : un + U < cLine)
    (ret : ∀ r news' h' tk', Fr h₀ L h' m → News h₀ L h' news' → Post r news' → Q r { s with heap := h', toks := tk' }) :
    wpAny (model PySem.Challenge.rw_wf0032_01.row.prog w) (ktrTop dp un gd cn cs L a ccd cl outer) (call (.ref f) vs kw) Q E s :=
  C dp un gd cn cs a ccd cl outer A₀ base h₀ L m s Q E B F X N T hk hd hu ret
theorem tel_i {w : World} {mean : ExcName → Option Value} {mg mb : Str → Option Value} {D U : Nat} {f : Addr} {vs : List Value} {kw : List (Str × Value)} {news : Led}
    {dp un : Nat} {gd : Option (List Code)} {cn : Str} {cs : Scope} {a : Addr} {ccd : Value} {cl : List (Str × Addr)} {outer : List Env} {A₀ : Around} {base h₀ : Heap} {L : Addr} {m : Str → Option Value} {s : Shared} {Q E : Value → Shared → Prop} {v : Int}
    (B : Below A₀ base outer h₀) (F : Fr h₀ L s.heap m) (X : (Mine.hd.heap_1 w.params).In h₀) (N : News h₀ L s.heap news) (T : Top Mine.hd.view_1 [Str.ofString "insort_right", Str.ofString "bisect_right", Str.ofString "bisect_left"] mean mg mb h₀) (hk : cs.kind = .function)
    (C : Tel w mean mg mb D U f vs kw news (fun r n => n = news ∧ ∃ t, r = .int v t)) (hd : dp + D < recursionLimit) (hu : un + U < cLine)
    (ret : ∀ t h' tk', Fr h₀ L h' m → News h₀ L h' news → Q (.int v t) { s with heap := h', toks := tk' }) :
    wpAny (model PySem.Challenge.rw_wf0032_01.row.prog w) (ktrTop dp un gd cn cs L a ccd cl outer) (call (.ref f) vs kw) Q E s :=
  tel_use B F X N T hk C hd hu fun r n h' tk' F' N' hp => by
    obtain ⟨rfl, t, rfl⟩ := hp
    exact ret t h' tk' F' N'


theorem words_E11 : True := by
  k_with "my:call ref" => ((k_here; (with_reducible show wpAny _ _ (call (Value.ref 32) [Value.ref _, Value.int _ _, Value.int 0 _, Value.none] _) _ _ _); k_dflt (refine' tel_i ?Bₓ ?Fₓ ?Xₓ ?Nₓ ?Tₓ ?hkₓ (br_tel _ _ _ _ _ _ _ _ _ _ _ _ ?p1ₓ ?p2ₓ ?p3ₓ) ?hdₓ ?huₓ ?_); (case Bₓ => k_asm); (case Fₓ => k_asm); (case Xₓ => k_asm); (case Nₓ => k_asm); (case Tₓ => k_asm); (case hkₓ => first | exact rfl | assumption); (case hdₓ => ktr_room); (case huₓ => ktr_units); (case p1ₓ => k_mem); (case p2ₓ => l_ints); (case p3ₓ => omega); intro t9ₓ h9ₓ tk9ₓ F9ₓ N9ₓ; (try dsimp only); (try k_fold)))
  trivial

def insL (ns : List Int) (k : Nat) (x : Int) : List Int := ns.take k ++ x :: ns.drop k

theorem updF_to {d : Addr} {o : Obj} {l : Led} {g : Obj → Led} (U : UpdF d o l g) (o' : Obj) : Upd d o o' l (g o') := by
  induction U with
  | head h => exact .head h
  | tail h _ ih => exact .tail h ih
theorem brF_range (ns : List Int) (x : Int) : ∀ (k : Nat) (lo hi : Int), lo ≤ hi → lo ≤ brF ns x k lo hi ∧ brF ns x k lo hi ≤ hi := by
  intro k
  induction k with
  | zero => intro lo hi h; exact ⟨Int.le_refl _, h⟩
  | succ k ih =>
    intro lo hi h
    simp only [brF]
    have e2 : (lo + hi).fdiv 2 = (lo + hi) / 2 := fdiv_eq _ (by decide)
    split
    · split
      · have := ih lo ((lo + hi).fdiv 2) (by omega); omega
      · have := ih ((lo + hi).fdiv 2 + 1) hi (by omega); omega
    · omega
theorem br_range (ns : List Int) (x lo hi : Int) (h : lo ≤ hi) : lo ≤ br ns x lo hi ∧ br ns x lo hi ≤ hi := brF_range ns x _ lo hi h
theorem ins_ints {vs : List Value} {ns : List Int} (hI : IntsAre vs ns) {k x : Int} (t : Tok) (h0 : 0 ≤ k) (h1 : k ≤ ns.length) : IntsAre (kl_ins vs k (.int x t)) (insL ns k.toNat x) := by
  have hl := IntsAre.length hI
  unfold kl_ins insL
  rw [if_neg (by omega), Nat.min_eq_left (by omega)]
  exact IntsAre.append (hI.take _) (.cons _ _ (hI.drop _))

set_option maxHeartbeats 8000000 in
theorem ins_tel (w : World) (mean : ExcName → Option Value) (mg mb : Str → Option Value) (news : Led) (g : Obj → Led) (la : Addr) (n : Nat) (vs : List Value) (ns : List Int) (x : Int) (t1 : Tok)
    (U : UpdF la (PySem.W.listOf vs.toArray n) news g) (hI : IntsAre vs ns) (hb : ns.length ≤ 900) :
    Tel w mean mg mb 2 16 23 [.ref la, .int x t1] [] news (fun r news' => r = .none ∧ ∃ vs' n', news' = g (PySem.W.listOf vs'.toArray n') ∧ IntsAre vs' (insL ns (br ns x 0 ns.length).toNat x)) := by
  w_top off
  unfold Tel
  k_fill
  intro dp un gd cn cs a ccd cl outer A₀ base h₀ L m s Q E B F X N T hk hd hu hret
  have hm : (la, PySem.W.listOf vs.toArray n) ∈ news := by
    obtain ⟨pre, post, rfl, _⟩ := U.split
    simp
  refine wpAny_call ?_
  k_dflt cell_enter
  refine wpAny_noRaise ?_
  k_steps
  have hr := br_range ns x 0 ns.length (by omega)
  have hlen := IntsAre.length hI
  rename Fr _ _ _ _ => F1
  rename News _ _ _ _ => N1
  refine kl_insert F1 N1 (by unfold Builtin.List.listFitsIndex; simp; omega) rfl (updF_to U _) (by rw [sizeLine_eq]; simp; omega) fun h' F2 N2 => ?_
  k_steps
  exact hret _ _ _ _ (by assumption) (by assumption) ⟨rfl, _, _, rfl, ins_ints hI _ hr.1 hr.2⟩
/-! G0 -/
theorem blF_range (ns : List Int) (x : Int) : ∀ (k : Nat) (lo hi : Int), lo ≤ hi → lo ≤ blF ns x k lo hi ∧ blF ns x k lo hi ≤ hi := by
  intro k
  induction k with
  | zero => intro lo hi h; exact ⟨Int.le_refl _, h⟩
  | succ k ih =>
    intro lo hi h
    simp only [blF]
    have e2 : (lo + hi).fdiv 2 = (lo + hi) / 2 := fdiv_eq _ (by decide)
    split
    · split
      · have := ih ((lo + hi).fdiv 2 + 1) hi (by omega); omega
      · have := ih lo ((lo + hi).fdiv 2) (by omega); omega
    · omega
theorem bl_range (ns : List Int) (x lo hi : Int) (h : lo ≤ hi) : lo ≤ bl ns x lo hi ∧ bl ns x lo hi ≤ hi := blF_range ns x _ lo hi h

theorem tel_mono {w : World} {mean : ExcName → Option Value} {mg mb : Str → Option Value} {D U : Nat} {f : Addr} {vs : List Value} {kw : List (Str × Value)} {news : Led} {Post Post' : Value → Led → Prop}
    (C : Tel w mean mg mb D U f vs kw news Post) (h : ∀ r n, Post r n → Post' r n) : Tel w mean mg mb D U f vs kw news Post' :=
  fun dp un gd cn cs a ccd cl outer A₀ base h₀ L m s Q E B F X N T hk hd hu ret => C dp un gd cn cs a ccd cl outer A₀ base h₀ L m s Q E B F X N T hk hd hu fun r n h' tk F' N' p => ret r n h' tk F' N' (h r n p)
theorem tel_i2 {w : World} {mean : ExcName → Option Value} {mg mb : Str → Option Value} {D U : Nat} {f : Addr} {vs : List Value} {kw : List (Str × Value)} {news : Led}
    {dp un : Nat} {gd : Option (List Code)} {cn : Str} {cs : Scope} {a : Addr} {ccd : Value} {cl : List (Str × Addr)} {outer : List Env} {A₀ : Around} {base h₀ : Heap} {L : Addr} {m : Str → Option Value} {s : Shared} {Q E : Value → Shared → Prop} {v : Int} {p q : Prop}
    (B : Below A₀ base outer h₀) (F : Fr h₀ L s.heap m) (X : (Mine.hd.heap_1 w.params).In h₀) (N : News h₀ L s.heap news) (T : Top Mine.hd.view_1 [Str.ofString "insort_right", Str.ofString "bisect_right", Str.ofString "bisect_left"] mean mg mb h₀) (hk : cs.kind = .function)
    (C : Tel w mean mg mb D U f vs kw news (fun r n => n = news ∧ (∃ t, r = .int v t) ∧ p ∧ q)) (hd : dp + D < recursionLimit) (hu : un + U < cLine)
    (ret : ∀ t h' tk', Fr h₀ L h' m → News h₀ L h' news → p → q → Q (.int v t) { s with heap := h', toks := tk' }) :
    wpAny (model PySem.Challenge.rw_wf0032_01.row.prog w) (ktrTop dp un gd cn cs L a ccd cl outer) (call (.ref f) vs kw) Q E s :=
  tel_use B F X N T hk C hd hu fun r n h' tk' F' N' hp => by
    obtain ⟨rfl, ⟨t, rfl⟩, hp, hq⟩ := hp
    exact ret t h' tk' F' N' hp hq
theorem tel_d {w : World} {mean : ExcName → Option Value} {mg mb : Str → Option Value} {D U : Nat} {f : Addr} {vs : List Value} {kw : List (Str × Value)} {news : Led}
    {dp un : Nat} {gd : Option (List Code)} {cn : Str} {cs : Scope} {a : Addr} {ccd : Value} {cl : List (Str × Addr)} {outer : List Env} {A₀ : Around} {base h₀ : Heap} {L : Addr} {m : Str → Option Value} {s : Shared} {Q E : Value → Shared → Prop} {c : List (Int × Int)}
    (B : Below A₀ base outer h₀) (F : Fr h₀ L s.heap m) (X : (Mine.hd.heap_1 w.params).In h₀) (N : News h₀ L s.heap news) (T : Top Mine.hd.view_1 [Str.ofString "insort_right", Str.ofString "bisect_right", Str.ofString "bisect_left"] mean mg mb h₀) (hk : cs.kind = .function)
    (C : Tel w mean mg mb D U f vs kw news (fun r n => ∃ l o', r = .ref l ∧ n = (l, o') :: news ∧ (l == sysModules) = false ∧ (∀ p ∈ news, p.1 < l) ∧ DictIs w o' c)) (hd : dp + D < recursionLimit) (hu : un + U < cLine)
    (ret : ∀ l o' h' tk', Fr h₀ L h' m → News h₀ L h' ((l, o') :: news) → (l == sysModules) = false → (∀ p ∈ news, p.1 < l) → ∀ kvs, o'.IsDictOf (PySem.intKind PySem.Challenge.rw_wf0032_01.row.prog w) kvs → FlatPairs PyData.int kvs (kdfD c) → Q (.ref l) { s with heap := h', toks := tk' }) :
    wpAny (model PySem.Challenge.rw_wf0032_01.row.prog w) (ktrTop dp un gd cn cs L a ccd cl outer) (call (.ref f) vs kw) Q E s :=
  tel_use B F X N T hk C hd hu fun r n h' tk' F' N' hp => by
    obtain ⟨l, o', rfl, rfl, h1, h2, kvs, h3, h4⟩ := hp
    exact ret l o' h' tk' F' N' h1 h2 kvs h3 h4
theorem bl_tel2 (w : World) (mean : ExcName → Option Value) (mg mb : Str → Option Value) (news : Led) (la : Addr) (n : Nat) (vs : List Value) (ns : List Int) (x lo hi : Int) (t1 t2 t3 : Tok)
    (hm : (la, PySem.W.listOf vs.toArray n) ∈ news) (hI : IntsAre vs ns) (h0 : 0 ≤ lo) (h1 : lo ≤ hi) (h2 : hi ≤ ns.length) (hb : ns.length ≤ 1000) :
    Tel w mean mg mb 1 8 41 [.ref la, .int x t1, .int lo t2, .int hi t3] [] news (fun r news' => news' = news ∧ (∃ t, r = .int (bl ns x lo hi) t) ∧ lo ≤ bl ns x lo hi ∧ bl ns x lo hi ≤ hi) :=
  tel_mono (bl_tel w mean mg mb news la n vs ns x lo hi t1 t2 t3 hm hI h0 h1 h2 hb) fun _ _ p => ⟨p.1, p.2, (bl_range ns x lo hi h1).1, (bl_range ns x lo hi h1).2⟩

theorem put_len (c : List (Int × Int)) : ∀ d : List (Int × Int), (c.foldl putIn d).length ≤ d.length + c.length := by
  induction c with
  | nil => intro d; exact Nat.le_refl _
  | cons p c ih => intro d; have h1 := ih (putIn d p); have h2 := kdfPut_len d p.1 p.2; simp only [List.foldl_cons, List.length_cons]; unfold putIn at *; omega
theorem add_len (c : List (Int × Int)) : ∀ d : List (Int × Int), (c.foldl addIn d).length ≤ d.length + c.length := by
  induction c with
  | nil => intro d; exact Nat.le_refl _
  | cons p c ih => intro d; have h1 := ih (addIn d p); have h2 := kdfPut_len d p.1 (if kdfHas d p.1 = true then kdfLook d p.1 0 + p.2 else p.2); simp only [List.foldl_cons, List.length_cons]; unfold addIn at *; omega
theorem addC_len (c c2 : List (Int × Int)) : (addC c c2).length ≤ c.length + c2.length := by
  have h1 := add_len c2 (c.foldl putIn []); have h2 := put_len c []; simp only [List.length_nil] at h2; unfold addC; omega
theorem addC_room1 {p : Int × Int} : (addC [] [p]).length ≤ 100 := Nat.le_trans (addC_len _ _) (by simp)
theorem addC_room2 {p q : Int × Int} : (addC (addC [] [p]) [q]).length ≤ 100 := Nat.le_trans (addC_len _ _) (by have := addC_len [] [p]; simp only [List.length_nil, List.length_cons] at *; omega)
theorem addC_room3 {p q r : Int × Int} : (addC (addC (addC [] [p]) [q]) [r]).length ≤ 100 := Nat.le_trans (addC_len _ _) (by have := addC_len (addC [] [p]) [q]; have := addC_len [] [p]; simp only [List.length_nil, List.length_cons] at *; omega)

theorem words_G01 : True := by
  k_with "my:call ref" => ((k_here; (with_reducible show wpAny _ _ (call (Value.ref 41) [Value.ref _, Value.int _ _, Value.int _ _, Value.int _ _] _) _ _ _); k_dflt (refine' tel_i2 ?Bₓ ?Fₓ ?Xₓ ?Nₓ ?Tₓ ?hkₓ (bl_tel2 _ _ _ _ _ _ _ _ _ _ _ _ _ _ _ ?p1ₓ ?p2ₓ ?p4ₓ ?p5ₓ ?p6ₓ ?p3ₓ) ?hdₓ ?huₓ ?_); (case Bₓ => k_asm); (case Fₓ => k_asm); (case Xₓ => k_asm); (case Nₓ => k_asm); (case Tₓ => k_asm); (case hkₓ => first | exact rfl | assumption); (case hdₓ => ktr_room); (case huₓ => ktr_units); (case p1ₓ => k_mem); (case p2ₓ => l_ints); (case p3ₓ => omega); (case p4ₓ => omega); (case p5ₓ => omega); (case p6ₓ => omega); intro t9ₓ h9ₓ tk9ₓ F9ₓ N9ₓ lo9ₓ hi9ₓ; (try dsimp only); (try k_fold)))
  k_with "my:call ref" => ((k_here; (with_reducible show wpAny _ _ (call (Value.ref 76) [Value.ref _, Value.ref _] _) _ _ _); k_dflt (first | (refine' tel_d ?Bₓ ?Fₓ ?Xₓ ?Nₓ ?Tₓ ?hkₓ (addc_tel _ _ _ _ _ _ _ _ _ [] [(_, _)] _ _ ?p1ₓ ?p2ₓ ?p3ₓ ?p4ₓ ?p5ₓ ?p6ₓ ?p7ₓ ?p8ₓ ?p9ₓ ?p10ₓ) ?hdₓ ?huₓ ?_; (case Bₓ => k_asm); (case Fₓ => k_asm); (case Xₓ => k_asm); (case Nₓ => k_asm); (case Tₓ => k_asm); (case hkₓ => first | exact rfl | assumption); (case hdₓ => ktr_room); (case huₓ => ktr_units); (case p1ₓ => k_mem); (case p2ₓ => assumption); (case p3ₓ => with_unfolding_all assumption); (case p6ₓ => k_mem); (case p7ₓ => assumption); (case p8ₓ => with_unfolding_all assumption); (case p4ₓ => first | exact Nat.le_of_ble_eq_true rfl | assumption | exact addC_room1 | exact addC_room2 | exact addC_room3); (case p5ₓ => assumption); (case p9ₓ => exact Nat.le_of_ble_eq_true rfl); (case p10ₓ => assumption)) | (refine' tel_d ?Bₓ ?Fₓ ?Xₓ ?Nₓ ?Tₓ ?hkₓ (addc_tel _ _ _ _ _ _ _ _ _ _ [(_, _)] _ _ ?p1ₓ ?p2ₓ ?p3ₓ ?p4ₓ ?p5ₓ ?p6ₓ ?p7ₓ ?p8ₓ ?p9ₓ ?p10ₓ) ?hdₓ ?huₓ ?_; (case Bₓ => k_asm); (case Fₓ => k_asm); (case Xₓ => k_asm); (case Nₓ => k_asm); (case Tₓ => k_asm); (case hkₓ => first | exact rfl | assumption); (case hdₓ => ktr_room); (case huₓ => ktr_units); (case p1ₓ => k_mem); (case p2ₓ => assumption); (case p3ₓ => with_unfolding_all assumption); (case p6ₓ => k_mem); (case p7ₓ => assumption); (case p8ₓ => with_unfolding_all assumption); (case p4ₓ => first | exact Nat.le_of_ble_eq_true rfl | assumption | exact addC_room1 | exact addC_room2 | exact addC_room3); (case p5ₓ => assumption); (case p9ₓ => exact Nat.le_of_ble_eq_true rfl); (case p10ₓ => assumption))); intro l9ₓ o9ₓ h9ₓ tk9ₓ F9ₓ N9ₓ lo9ₓ l1ₓ kv9ₓ hd9ₓ hf9ₓ; (try k_lt l1ₓ); (try dsimp only); (try k_fold)))
  k_with "my:eval Dict" => ((k_here; k_dflt (refine' kdn_eval (knd := PySem.intKind _ _) ?Fₓ ?Nₓ ?bₓ ?aₓ ?lₓ ?eₓ ?nₓ ?_; (case Fₓ => k_asm); (case Nₓ => k_asm); (case bₓ => exact Top.nolimit (by k_asm)); (case aₓ => rfl); (case lₓ => rfl); (case eₓ => exact List.cons_ne_nil _ _); (case nₓ => exact Nat.le_of_ble_eq_true rfl)); intro dₓ hₓ oₓ Fₓ Nₓ l1ₓ loₓ hdₓ; (try k_lt l1ₓ)))
  trivial

/-- a ledger without a loop's iterator -/
inductive Outs (I : Addr) (it : Obj) : Led → Led → Prop
  | here {l : Led} (h : ∀ p ∈ l, p.1 ≠ I) : Outs I it ((I, it) :: l) l
  | next {p : Addr × Obj} {l l' : Led} (h : p.1 ≠ I) (h2 : Outs I it l l') : Outs I it (p :: l) (p :: l')
theorem Outs.all {I : Addr} {it : Obj} {l l' : Led} (h : Outs I it l l') : (I, it) ∈ l ∧ (∀ p ∈ l', p ∈ l) ∧ ∀ p ∈ l', p.1 ≠ I := by
  induction h with
  | here h => exact ⟨.head _, fun p hp => .tail _ hp, h⟩
  | next h _ ih =>
    refine ⟨.tail _ ih.1, fun p hp => ?_, List.forall_mem_cons.mpr ⟨h, ih.2.2⟩⟩
    rcases List.mem_cons.mp hp with rfl | hp
    · exact .head _
    · exact .tail _ (ih.2.1 p hp)
theorem unrEnd_outs {h₀ : Heap} {L I : Addr} {it : Obj} {rest : (Str → Option Value) → List (Addr × Obj) → Prop} {s₁ : Shared} {h' : Heap} {tk : Nat} {m' : Str → Option Value} {all news' : Led} (F : Fr h₀ L h' m') (N : News h₀ L h' all)
    (o : Outs I it all news') (r : rest m' news') : UnrEnd h₀ L s₁ I it rest { s₁ with heap := h', toks := tk } :=
  UnrEnd.intro F N news' (List.forall_mem_cons.mpr ⟨o.all.1, o.all.2.1⟩) o.all.2.2 r
theorem words_G02 : True := by
  k_with "my:k_all" => (with_reducible first | exact kst_ltOf (by assumption) | exact kst_ltOf (And.right (by assumption)) | exact kst_ltOf (And.right (And.right (by assumption))) | exact kst_ltOf (And.right (And.right (And.right (by assumption)))) | exact kst_ltOf (And.right (And.right (And.right (And.right (by assumption))))) | exact kst_ltOf (And.right (And.right (And.right (And.right (And.right (by assumption)))))) | exact kst_ltOf (And.right (And.right (And.right (And.right (And.right (And.right (by assumption))))))) | exact kst_ltOf (And.right (And.right (And.right (And.right (And.right (And.right (And.right (by assumption)))))))) | exact kst_ltOf (And.right (And.right (And.right (And.right (And.right (And.right (And.right (And.right (by assumption))))))))))
  k_with "my:k_all" => (with_reducible first | exact allNe_of (kst_ltOf (by assumption)) | exact allNe_of (kst_ltOf (And.right (by assumption))) | exact allNe_of (kst_ltOf (And.right (And.right (by assumption)))) | exact allNe_of (kst_ltOf (And.right (And.right (And.right (by assumption))))) | exact allNe_of (kst_ltOf (And.right (And.right (And.right (And.right (by assumption)))))) | exact allNe_of (kst_ltOf (And.right (And.right (And.right (And.right (And.right (by assumption))))))) | exact allNe_of (kst_ltOf (And.right (And.right (And.right (And.right (And.right (And.right (by assumption)))))))) | exact allNe_of (kst_ltOf (And.right (And.right (And.right (And.right (And.right (And.right (And.right (by assumption))))))))) | exact allNe_of (kst_ltOf (And.right (And.right (And.right (And.right (And.right (And.right (And.right (And.right (by assumption)))))))))))
  trivial

theorem addC_one {c : List (Int × Int)} (hn : (c.map (·.1)).Nodup) (p : Int × Int) : addC c [p] = kdfPut c p.1 (kdfLook c p.1 0 + p.2) := by
  have e : c.foldl putIn [] = c := by
    have := kpr_foldl_new c [] (fun _ _ => rfl) hn
    rw [List.nil_append] at this
    exact this
  unfold addC
  rw [e]
  simp only [List.foldl_cons, List.foldl_nil, addIn]
  by_cases h : kdfHas c p.1 = true
  · rw [if_pos h]
  · rw [if_neg h, show kdfLook c p.1 0 = 0 from kpr_look_none (by rw [← kdfHas_is]; simpa using h) 0]
    simp
theorem addC_nodup {c : List (Int × Int)} (hn : (c.map (·.1)).Nodup) (p : Int × Int) : ((addC c [p]).map (·.1)).Nodup := by
  rw [addC_one hn]; exact kpr_nodup hn _ _
theorem addC_sum {c : List (Int × Int)} (hn : (c.map (·.1)).Nodup) (p : Int × Int) : ((addC c [p]).map (·.2)).sum = (c.map (·.2)).sum + p.2 := by
  rw [addC_one hn, kpr_sum_vals, kpr_sum_vals]; exact kpr_sum_add hn _ _
theorem addC_sum1 {p : Int × Int} : ((addC [] [p]).map (·.2)).sum = p.2 := by
  rw [addC_sum (c := []) List.nodup_nil]; simp
theorem addC_sum2 {p q : Int × Int} : ((addC (addC [] [p]) [q]).map (·.2)).sum = p.2 + q.2 := by
  rw [addC_sum (addC_nodup (c := []) List.nodup_nil p), addC_sum1]
theorem addC_sum3 {p q r : Int × Int} : ((addC (addC (addC [] [p]) [q]) [r]).map (·.2)).sum = p.2 + q.2 + r.2 := by
  rw [addC_sum (addC_nodup (addC_nodup (c := []) List.nodup_nil p) q), addC_sum2]
theorem words_G03 : True := by
  k_with "my:call ref" => ((k_here; (with_reducible show wpAny _ _ (call (Value.ref 83) [Value.ref _] _) _ _ _); k_dflt (refine' tel_i ?Bₓ ?Fₓ ?Xₓ ?Nₓ ?Tₓ ?hkₓ (cc_tel _ _ _ _ _ _ _ _ _ ?p1ₓ ?p2ₓ ?p3ₓ ?p4ₓ ?p5ₓ) ?hdₓ ?huₓ ?_); (case Bₓ => k_asm); (case Fₓ => k_asm); (case Xₓ => k_asm); (case Nₓ => k_asm); (case Tₓ => k_asm); (case hkₓ => first | exact rfl | assumption); (case hdₓ => ktr_room); (case huₓ => ktr_units); (case p1ₓ => k_mem); (case p2ₓ => assumption); (case p3ₓ => with_unfolding_all assumption); (case p4ₓ => first | exact Nat.le_of_ble_eq_true rfl | assumption | exact addC_room1 | exact addC_room2 | exact addC_room3); (case p5ₓ => assumption); intro t9ₓ h9ₓ tk9ₓ F9ₓ N9ₓ; (try dsimp only); (try k_fold)))
  trivial

section
variable {prog : Program} {w : World} {A : Around} {E : Value → Shared → Prop} {s : Shared} {env : Env} {h₀ : Heap} {x : Str} {body : List Stmt} {Q : Flow → Shared → Prop}
/-- a loop over range(n) by what holds between the turns -/
theorem range_inv {I : Addr} {n : Nat} (J : Nat → (Str → Option Value) → Led → Prop)
    (turn : ∀ i m₁ n₁ t h tk, i < n → J i m₁ n₁ → Fr h₀ env.locals h (fun y => if y = x then some (.int (i : Nat) t) else m₁ y) → News h₀ env.locals h ((I, itR ((i + 1 : Nat) : Int) ((n : Int) - ((i + 1 : Nat) : Int))) :: n₁) →
      wpAny (model prog w) A (execs body env) (UnrPost h₀ env.locals { s with heap := h, toks := tk } I (itR ((i + 1 : Nat) : Int) ((n : Int) - ((i + 1 : Nat) : Int))) (J (i + 1)) Q) E { s with heap := h, toks := tk })
    (done : ∀ m₁ n₁ h tk, J n m₁ n₁ → Fr h₀ env.locals h m₁ → News h₀ env.locals h n₁ → Q .next { s with heap := h, toks := tk }) :
    ∀ (k i : Nat) (m : Str → Option Value) (news : Led), i + k = n → J i m news → RangeRest prog w A E h₀ env x body Q s I 0 n k i m news := by
  intro k
  induction k with
  | zero =>
    intro i m news hk hj
    obtain rfl : i = n := by omega
    exact RangeRest.zero fun h tk F N => done m news h tk hj F N
  | succ k ih =>
    intro i m news hk hj
    refine RangeRest.succ fun t h tk F N => ?_
    simp only [Int.zero_add] at F N ⊢
    refine wpAny_mono (turn i m news t h tk (by omega) hj F N) (fun f s₃ z => ?_) fun _ _ e => e
    have up : UnrEnd h₀ env.locals { s with heap := h, toks := tk } I (itR ((i + 1 : Nat) : Int) ((n : Int) - ((i + 1 : Nat) : Int))) (J (i + 1)) s₃ → UnrEnd h₀ env.locals { s with heap := h, toks := tk } I (itR ((i + 1 : Nat) : Int) ((n : Int) - ((i + 1 : Nat) : Int))) (RangeRest prog w A E h₀ env x body Q s I 0 n k (i + 1)) s₃ := by
      rintro ⟨h', tk', m', news', e, F', N', off, hJ⟩
      exact ⟨h', tk', m', news', e, F', N', off, ih (i + 1) m' news' (by omega) hJ⟩
    cases f with
    | ret v => exact z
    | brk => exact z
    | next => exact up z
    | cont => exact up z
theorem range_st {I : Addr} {n : Nat} {m₀ : Str → Option Value} {news : Led} {σ : Type} (Ld : σ → Led) (ps : σ → List (Str × Value)) (stored : List Str) (R : Nat → σ → Prop) (c₀ : σ)
    (hn : ∀ p ∈ Ld c₀, p ∈ news) (hk : ∀ p ∈ ps c₀, m₀ p.1 = some p.2) (hr : R 0 c₀)
    (turn : ∀ i c (u : Str → Option Value) t h tk, i < n → R i c → Fr h₀ env.locals h (fun y => if y = x then some (.int (i : Nat) t) else kstB (fun z => if stored.contains z then u z else m₀ z) (ps c) y) → News h₀ env.locals h ((I, itR ((i + 1 : Nat) : Int) ((n : Int) - ((i + 1 : Nat) : Int))) :: Ld c) →
      wpAny (model prog w) A (execs body env) (UnrPost h₀ env.locals { s with heap := h, toks := tk } I (itR ((i + 1 : Nat) : Int) ((n : Int) - ((i + 1 : Nat) : Int))) (fun m' n' => Left Ld ps stored m₀ (R (i + 1)) m' n') Q) E { s with heap := h, toks := tk })
    (done : ∀ c (u : Str → Option Value) h tk, R n c → Fr h₀ env.locals h (kstB (fun z => if stored.contains z then u z else m₀ z) (ps c)) → News h₀ env.locals h (Ld c) → Q .next { s with heap := h, toks := tk }) :
    RangeRest prog w A E h₀ env x body Q s I 0 n n 0 m₀ news := by
  have em : ∀ (m₁ : Str → Option Value) (c : σ), (∀ p ∈ ps c, m₁ p.1 = some p.2) → (∀ z, (∀ p ∈ ps c, z ≠ p.1) → stored.contains z = false → m₁ z = m₀ z) → kstB (fun z => if stored.contains z then m₁ z else m₀ z) (ps c) = m₁ := by
    intro m₁ c h1 h2
    funext y
    refine kstB_eq h1 fun hn => ?_
    show (if stored.contains y = true then m₁ y else m₀ y) = m₁ y
    cases h3 : stored.contains y with
    | true => simp
    | false => simp only [Bool.false_eq_true, if_false]; exact (h2 y hn h3).symm
  refine range_inv (fun i m₁ n₁ => ∃ c : σ, (∀ p ∈ Ld c, p ∈ n₁) ∧ R i c ∧ (∀ p ∈ ps c, m₁ p.1 = some p.2) ∧ ∀ z, (∀ p ∈ ps c, z ≠ p.1) → stored.contains z = false → m₁ z = m₀ z) ?_ ?_ n 0 m₀ news (by omega) ⟨c₀, hn, hr, hk, fun _ _ _ => rfl⟩
  · rintro i m₁ n₁ t h tk hi ⟨c, hs, hR, h1, h2⟩ F N
    refine wpAny_mono (turn i c m₁ t h tk hi hR (by rw [em m₁ c h1 h2]; exact F) (fun p hp => ?_)) (fun f s₃ z => ?_) fun _ _ e => e
    · rcases List.mem_cons.mp hp with rfl | hp
      · exact N _ (.head _)
      · exact N p (.tail _ (hs p hp))
    · have up : ∀ {it : Obj} {s₁ : Shared}, UnrEnd h₀ env.locals s₁ I it (fun m' n' => Left Ld ps stored m₀ (R (i + 1)) m' n') s₃ → UnrEnd h₀ env.locals s₁ I it (fun m' n' => ∃ c : σ, (∀ p ∈ Ld c, p ∈ n') ∧ R (i + 1) c ∧ (∀ p ∈ ps c, m' p.1 = some p.2) ∧ ∀ z, (∀ p ∈ ps c, z ≠ p.1) → stored.contains z = false → m' z = m₀ z) s₃ := by
        rintro it s₁ ⟨h', tk', m', news', e, F', N', off, c', e', hJ⟩
        exact ⟨h', tk', m', news', e, F', N', off, c', fun p hp => e' ▸ hp, hJ⟩
      cases f with
      | ret v => exact z
      | brk => exact z
      | next => exact up z
      | cont => exact up z
  · rintro m₁ n₁ h tk ⟨c, hs, hR, h1, h2⟩ F N
    exact done c m₁ h tk hR (left_fr h1 h2 F) fun p hp => N p (hs p hp)
/-- an end of a turn of a loop over range(n) -/
theorem range_end {L I : Addr} {it : Obj} {m₀ m' : Str → Option Value} {all : Led} {s₁ : Shared} {h' : Heap} {tk : Nat} {σ : Type} {Ld : σ → Led} {ps : σ → List (Str × Value)} {stored : List Str} {R : σ → Prop} (c' : σ)
    (F : Fr h₀ L h' m') (N : News h₀ L h' all) (hI : (I, it) ∈ all) (hsub : ∀ p ∈ Ld c', p ∈ all) (off : ∀ p ∈ Ld c', p.1 ≠ I) (hR : R c') (hk : ∀ p ∈ ps c', m' p.1 = some p.2) (hz : ∀ z, (∀ p ∈ ps c', z ≠ p.1) → stored.contains z = false → m' z = m₀ z) :
    UnrEnd h₀ L s₁ I it (fun m' n' => Left Ld ps stored m₀ R m' n') { s₁ with heap := h', toks := tk } :=
  UnrEnd.intro F N (Ld c') (List.forall_mem_cons.mpr ⟨hI, hsub⟩) off ⟨c', rfl, hR, hk, hz⟩
end
theorem small_nat {c : Nat} (h : c ≤ 1000) : Builtin.Range.small 0 (c : Nat) 1 = true := small_one (by omega) (by omega) (by omega) (by omega)
theorem size_nat (c : Nat) : Builtin.Range.rangeSize 0 (c : Nat) 1 = (c : Int) := by rw [rangeSize_one]; split <;> omega
section
/-! W1 -/
namespace Fb
theorem mro_ba : mroOf (.type "bytearray") = pure [.type "bytearray", .type "object"] := by rw [mroOf_type]; kernel_rfl
theorem lookup_ba_new : typeLookup (.type "bytearray") "__new__" = pure (some (.builtin "bytearray.__new__")) := by rw [typeLookup_type, builtinLookup_eq_fast]; kernel_rfl
theorem lookup_ba_release : typeLookup (.type "bytearray") "__release_buffer__" = pure (some (.builtin "bytearray.__release_buffer__")) := by rw [typeLookup_type, builtinLookup_eq_fast]; kernel_rfl
theorem owner_ba : Manifest.owners.lookup (String.ofList ['y', 'a', 'r', 'r', 'a', 'e', 't', 'y', 'b'].reverse) = some Manifest.sig_bytearray := by kernel_rfl
theorem slot_ba_init : Slot "bytearray" "__init__" "bytearray.__init__" :=
  .of (owner := "bytearray") (n := "__init__") (by rw [typeLookup_type, builtinLookup_eq_fast]; kernel_rfl) (by decide +kernel) (by decide +kernel) (by decide +kernel)
    (by first | exact .inl (by decide +kernel) | exact .inr (by decide +kernel)) (by rw [isSubtype_type]; kernel_rfl)
theorem args_ba_init (a b : Value) : argsOk "bytearray.__init__" ⟨[a, b], []⟩ := by
  unfold argsOk; rw [signature?_of (id := "bytearray.__init__") (n := ['_', '_', 't', 'i', 'n', 'i', '_', '_']) (o := ['y', 'a', 'r', 'r', 'a', 'e', 't', 'y', 'b']) (by kernel_rfl) owner_ba]; kernel_rfl
theorem slot_ba_setitem : Slot "bytearray" "__setitem__" "bytearray.__setitem__" :=
  .of (owner := "bytearray") (n := "__setitem__") (by rw [typeLookup_type, builtinLookup_eq_fast]; kernel_rfl) (by decide +kernel) (by decide +kernel) (by decide +kernel)
    (by first | exact .inl (by decide +kernel) | exact .inr (by decide +kernel)) (by rw [isSubtype_type]; kernel_rfl)
theorem args_ba_setitem (a b c : Value) : argsOk "bytearray.__setitem__" ⟨[a, b, c], []⟩ := by
  unfold argsOk; rw [signature?_of (id := "bytearray.__setitem__") (n := ['_', '_', 'm', 'e', 't', 'i', 't', 'e', 's', '_', '_']) (o := ['y', 'a', 'r', 'r', 'a', 'e', 't', 'y', 'b']) (by kernel_rfl) owner_ba]; kernel_rfl
theorem called_ba : TypeCalled "bytearray" "bytearray.__new__" "bytearray.__init__" :=
  ⟨by decide +kernel, by decide +kernel, ⟨_, _, mro_ba⟩, madeBy_type mro_ba lookup_ba_new (by decide +kernel), by decide +kernel, by rw [isSubtype_type]; kernel_rfl, slot_ba_init⟩
theorem typeCall_ba (a : Value) : checkTypeCall "bytearray" ⟨[a], []⟩ = pure () := by kernel_rfl
theorem newCall_ba (a : Value) : checkBuiltinCall "bytearray.__new__" ⟨[.type "bytearray", a], []⟩ = pure () := by kernel_rfl
theorem entry_ba_new : entryFor table "bytearray.__new__" = some Builtin.«list.__new__» := entryFor_alias (id' := "list.__new__") (by rw [fastTable_eq_tree]; kernel_rfl) (by decide +kernel) (by decide +kernel) (by rw [fastTable_eq_tree]; kernel_rfl)
theorem entry_ba_init : entryFor table "bytearray.__init__" = some Builtin.«bytearray.__init__» := entryFor_of_tree (by kernel_rfl)
theorem entry_ba_setitem : entryFor table "bytearray.__setitem__" = some Builtin.«bytearray.__setitem__» := entryFor_of_tree (by kernel_rfl)
theorem plain_ba_new : plainId "bytearray.__new__" = true := by decide +kernel
theorem plain_ba_init : plainId "bytearray.__init__" = true := by decide +kernel
set_option maxRecDepth 1000000 in
set_option maxHeartbeats 4000000 in
theorem owner_ba_new : ("bytearray.__new__".splitOn ".__new__").headD "" = "bytearray" := by simp +decide [String.splitOn, String.splitOnAux]
theorem sub_ba_self : isSubtype (.type "bytearray") (.type "bytearray") = pure true := by rw [isSubtype_type]; kernel_rfl
end Fb

abbrev baO (b : Array UInt8) : Obj := { cls := .type "bytearray", data := .bytearray b 0 }
section
variable {prog : Program} {w : World} {A : Around} {E : Value → Shared → Prop} {s : Shared}
theorem code_ba_new (a : Value) {Q₁ : Value → Shared → Prop}
    (h : Q₁ (.ref s.heap.objs.size) { s with heap := s.heap.push (baO #[]) }) :
    codeAny (model prog w) A (.call (.builtin "bytearray.__new__") ⟨[.type "bytearray", a], []⟩) (wants Q₁ E) s := by
  refine codeAny_of_tree ?_
  show wpAny _ A.in1 (do checkBuiltinCall "bytearray.__new__" ⟨[.type "bytearray", a], []⟩; again (.builtin "bytearray.__new__" ⟨[.type "bytearray", a], []⟩)) _ _ s
  refine wpAny_bind (wpAny_of_eq (Fb.newCall_ba a) (wpAny_pure ⟨plainId_quiet Fb.plain_ba_new _, codeAny_builtin_stack Fb.entry_ba_new rfl fun p st => ?_⟩))
  rw [Around.under_plainId Fb.plain_ba_new _]
  have hsub := Fb.sub_ba_self
  have hown := Fb.owner_ba_new
  obtain ⟨hp, g, d, tk, os⟩ := s
  simp only [hown]
  wp_walk
  exact h
end
/-! W2 -/
section
variable {prog : Program} {w : World} {A : Around} {E : Value → Shared → Prop} {s : Shared}
theorem codeC_builtin {id : String} {args : Args} {b : Builtin} {R : Result → Shared → Prop} (hcl : cleanC (.builtin id args) = true) (hb : entryFor table id = some b)
    (h : wpC (model prog w) (A.under (.builtin id args)) (b args)
      (fun fin s' => match fin with | .done f => R (.ok f) s' | .again c' => c'.quiet = true ∧ codeC (model prog w) A c' R s') (fun e s' => R (.error e) s') s) :
    codeC (model prog w) A (.builtin id args) R s := by
  refine codeC_tree hcl ?_
  show wpC _ _ (match entryFor table id with | some b => b args | none => unsupported ((withoutEnding? id "#data").getD id)) _ _ s
  rw [hb]; exact h
theorem codeC_call_builtin {id : String} {args : Args} {b : Builtin} {R : Result → Shared → Prop} (hcl : cleanC (.builtin id args) = true) (hq : plainId id = true) (hb : entryFor table id = some b)
    (h : wpAny (model prog w) A.in1 (checkBuiltinCall id args) (fun _ s₁ => wpC (model prog w) A.in1 (b args)
      (fun fin s' => match fin with | .done f => R (.ok f) s' | .again c' => c'.quiet = true ∧ codeC (model prog w) A c' R s') (fun e s' => R (.error e) s') s₁)
      (fun e s' => R (.error e) s') s) : codeC (model prog w) A (.call (.builtin id) args) R s := by
  refine codeC_tree rfl ?_
  show wpC _ A.in1 (do checkBuiltinCall id args; again (.builtin id args)) _ _ s
  refine wpC_ab (wpAny_mono h (fun _ s₁ h₁ => wpC_pure (And.intro (plainId_quiet hq args) (codeC_builtin hcl hb ?_))) fun _ _ h' => h')
  rw [Around.under_plainId hq args]; exact h₁

theorem callType_ba {args : List Value} {Q Q₁ : Value → Shared → Prop} (hct : checkTypeCall "bytearray" ⟨args, []⟩ = pure ())
    (hnew : codeAny (model prog w) A.in1 (.call (.builtin "bytearray.__new__") ⟨.type "bytearray" :: args, []⟩) (wants Q₁ E) s)
    (hnext : ∀ obj s₁, Q₁ obj s₁ → s₁.TypeIs obj "bytearray" ∧ argsOk "bytearray.__init__" ⟨obj :: args, []⟩ ∧
      wpC (model prog w) A.in1.in1 (Builtin.«bytearray.__init__» ⟨obj :: args, []⟩)
        (fun fin s' => match fin with | .done f => wants (fun r s₂ => r = .none ∧ Q obj s₂) E (.ok f) s' | .again c' => c'.quiet = true ∧ codeC (model prog w) A.in1 c' (wants (fun r s₂ => r = .none ∧ Q obj s₂) E) s')
        (fun e s' => wants (fun r s₂ => r = .none ∧ Q obj s₂) E (.error e) s') s₁) :
    wpC (model prog w) A (call (.type "bytearray") args) Q E s := by
  have ft := Fb.called_ba
  obtain ⟨c, tl, hmro⟩ := ft.mro
  have hmade := ft.made
  have hsub := ft.sub
  refine wpC_call (codeC_tree rfl ?_)
  show wpC _ _ (callAny (.type "bytearray") _) _ _ _
  refine wpC_pure ⟨Code.quiet_builtin _ (by decide +kernel), codeC_builtin (show (!heldIds.contains "type.__call__") = true by decide +kernel) F.entry_type_call ?_⟩
  rw [Around.under_plain (weight_type_call_type "bytearray" args []) rfl]
  have h1 := ft.notType
  have h2 := ft.canCreate
  unfold Builtin.«type.__call__»
  simp only [h1, h2, Bool.false_eq_true, if_false]
  refine wpC_ab (wpAny_of_eq hct ?_)
  refine wpC_ab (wpAny_of_eq hmro ?_)
  simp only [List.isEmpty_cons, Bool.false_eq_true, if_false]
  refine wpC_ab (wpAny_of_eq hmade ?_)
  refine wpC_ab (wpAny_pure ?_)
  refine wpC_ab (wpAny_holding (wpAny_call (codeAny_mono hnew fun r s₁ hr => ?_)))
  cases r with
  | error e => exact hr
  | ok fl =>
    cases fl with
    | ret obj =>
      obtain ⟨hT, hok, hsi⟩ := hnext _ _ hr
      have hli := ft.init.lookup
      have hbi := ft.init.bind obj
      refine wpC_ab (wpAny_isInstance hT hsub ?_)
      simp only [Bool.not_true, Bool.false_eq_true, if_false]
      refine wpC_bind (wpC_holding ?_)
      unfold callSpecial?
      refine wpC_ab (wpAny_specialOf hT hli ?_)
      dsimp only
      refine wpC_holding ?_
      refine wpC_ab (wpAny_of_eq hbi ?_)
      refine wpC_bind ?_
      refine wpC_call (codeC_mono (codeC_call_builtin (show (!heldIds.contains "bytearray.__init__") = true by decide +kernel) ft.init.plain Fb.entry_ba_init (ft.init.check _ _ _ _ _ _ _ _ hT hok hsi)) fun r₂ s₂ hr₂ => ?_)
      cases r₂ with
      | error e => exact hr₂
      | ok fl₂ =>
        cases fl₂ with
        | ret r =>
          obtain ⟨rfl, hq⟩ := hr₂
          refine wpC_pure ?_
          exact wpC_any (by wp_walk; exact hq)
        | _ => exact hr₂.elim
    | _ => exact hr.elim
end
/-! W3 -/
section
variable {prog : Program} {w : World} {M : Model} {A : Around} {E : Value → Shared → Prop} {s : Shared}
theorem exported_any {Γ : PySem.Ctx} {p : Pos} {v : Value} {Q : Bool → Pos → Shared → Prop} {E : Value → Pos → Shared → Prop} (hc : cleanC Γ.code = true) (hb : Clean Γ.below) (h : Q false p s) : Sem.wp M Γ (Builtin.Bytes.exported v) Q E p s := by
  show Q (List.any ((Γ.code, p) :: Γ.below) _) p s
  refine Eq.subst (motive := fun b => Q b p s) (Eq.symm (?_ : _ = false)) h
  rw [List.any_eq_false]
  intro x hx
  have hc := Clean.cons (p := p) hc hb x hx
  obtain ⟨c, q⟩ := x
  delta Builtin.Bytes.exported.match_1
  cases c with
  | builtin id args =>
    have hid : heldIds.contains id = false := by
      have h9 : (!heldIds.contains id) = true := hc
      cases hx : heldIds.contains id with
      | false => rfl
      | true => rw [hx] at h9; cases h9
    have hne : ∀ z : String, heldIds.contains z = true → ¬ id = z := fun z hz e => by rw [e, hz] at hid; cases hid
    have hd : Builtin.Bytes.decodersThatHold.contains id = false := by
      cases hx : Builtin.Bytes.decodersThatHold.contains id with
      | false => rfl
      | true =>
        rw [List.contains_iff_mem] at hx
        have : heldIds.contains id = true := by
          rw [List.contains_iff_mem]
          exact List.mem_append_right _ hx
        rw [this] at hid; cases hid
    show ¬ dite _ _ _ = true
    rw [dif_neg (hne _ (by decide +kernel)), dif_neg (hne _ (by decide +kernel)), dif_neg (hne _ (by decide +kernel)), dif_neg (hne _ (by decide +kernel)), dif_neg (hne _ (by decide +kernel))]
    obtain ⟨pos, kw⟩ := args
    cases pos with
    | nil => exact Bool.false_ne_true
    | cons u r =>
      show ¬ (Builtin.Bytes.sameRef u v && Builtin.Bytes.decodersThatHold.contains id) = true
      rw [hd, Bool.and_false]
      exact Bool.false_ne_true
  | _ => exact Bool.false_ne_true
theorem wpC_exported {v : Value} {Q : Bool → Shared → Prop} (h : Q false s) : wpC M A (Builtin.Bytes.exported v) Q E s := fun Γ p _ hc hb => exported_any hc hb h
end
/-! W4 -/
section
variable {prog : Program} {w : World} {M : Model} {A : Around} {E : Value → Shared → Prop} {s : Shared}
theorem ownRelease_ba {v : Value} {Q : Bool → Shared → Prop} (hT : s.TypeIs v "bytearray") (h : Q false s) : wpAny M A (Builtin.Bytes.ownRelease v) Q E s := by
  unfold Builtin.Bytes.ownRelease Builtin.Bytes.slotIsOwn
  refine wpAny_bind (wpAny_bind (wpAny_specialOf hT Fb.lookup_ba_release ?_))
  dsimp only
  have e1 : ("bytearray.__release_buffer__".endsWith ("." ++ "__release_buffer__")) = true := by decide +kernel
  have e2 : (("bytearray.__release_buffer__".dropRight ("__release_buffer__".length + 1)) : String) = "bytearray" := by decide +kernel
  rw [e1]
  simp only [Bool.not_true, Bool.false_eq_true, if_false]
  rw [e2]
  exact wpAny_isInstance hT Fb.sub_ba_self (wpAny_pure h)

theorem write_ba {a : Addr} {b : Array UInt8} {f : Array UInt8 → Array UInt8} {Q : Unit → Shared → Prop} (ho : s.heap.get? a = some (baO b)) (hz : (f b).size ≤ sizeLine)
    (h : ∀ h', Heap.SameBut a s.heap h' → h'.get? a = some (baO (f b)) → Q () { s with heap := h' }) : wpAny M A (Builtin.Bytes.write (.ref a) f) Q E s := by
  unfold Builtin.Bytes.write updateBytearray
  dsimp only
  refine wpAny_bind (wpAny_load ho ?_)
  dsimp only
  refine wpAny_bind (wpAny_update ho ?_)
  have h2 : (s.heap.update a (Obj.mapBytearray f)).get? a = some (baO (f b)) := Heap.get?_update_self (Obj.mapBytearray f) ho rfl
  refine wpAny_lookBehind h2 ?_ (h _ (Heap.SameBut.update _ _ _) h2)
  show (if (f b).size > sizeLine then some _ else none) = none
  rw [if_neg (Nat.not_lt.mpr hz)]
theorem init_ba {a : Addr} {n : Int} {t : Tok} {Q : Fin → Shared → Prop} (ho : s.heap.get? a = some (baO #[])) (h0 : 0 < n) (h1 : n ≤ 1000)
    (h : ∀ h', Heap.SameBut a s.heap h' → h'.get? a = some (baO (Array.replicate n.toNat 0)) → Q (.done (.ret .none)) { s with heap := h' }) :
    wpC (model prog w) A (Builtin.«bytearray.__init__» ⟨[.ref a, .int n t], []⟩) Q E s := by
  have hT : s.TypeIs (.ref a) "bytearray" := ⟨_, ho, rfl⟩
  unfold Builtin.«bytearray.__init__»
  dsimp only
  refine wpC_ab (ownRelease_ba hT ?_)
  simp only [Bool.false_eq_true, if_false]
  refine wpC_ab ?_
  refine wpAny_of_eq (show Builtin.Bytes.bindOptional "bytearray.__init__" "bytearray" ["source", "encoding", "errors"] [.int n t] [] = pure [some (.int n t), none, none] from rfl) ?_
  dsimp only
  refine wpC_ab (wpAny_of_eq (show Builtin.Bytes.checkCodecArg "bytearray.__init__" "bytearray" "encoding" none = pure () from rfl) ?_)
  refine wpC_ab (wpAny_of_eq (show Builtin.Bytes.checkCodecArg "bytearray.__init__" "bytearray" "errors" none = pure () from rfl) ?_)
  refine wpC_bind ?_
  refine (wpC_bind (m := Builtin.Bytes.exported (.ref a)) (wpC_exported ?_))
  refine wpC_ab ?_
  unfold Builtin.Bytes.exportsOf
  refine wpAny_bind (wpAny_load ho (wpAny_pure (wpC_pure ?_)))
  refine wpC_any ?_
  simp only [Nat.lt_irrefl, gt_iff_lt, decide_false, Bool.false_eq_true, if_false]
  refine wpAny_bind (write_ba ho (by simp) fun h₁ sb₁ ho₁ => ?_)
  refine wpAny_bind (wpAny_of_eq (show asStr? (.int n t) = pure none from rfl) ?_)
  simp only [Option.isSome_none, Bool.false_eq_true, if_false]
  refine wpAny_bind (wpAny_pure ?_)
  refine wpAny_bind (wpAny_specialOf (typeIs_int _ n t) F.slot_int_index.lookup ?_)
  simp only [Option.isSome_some, if_true]
  refine wpAny_bind (wpAny_attempt (wpAny_of_eq (rfl : asIndex (.int n t) = pure n) ?_))
  dsimp only
  have f1 : Builtin.Bytes.fitsIndex n = true := by unfold Builtin.Bytes.fitsIndex; simp; omega
  have f2 : ¬ n < 0 := by omega
  have f3 : (n == 2 ^ 63 - 1) = false := by simp; omega
  have f4 : Builtin.Bytes.tooLong n.toNat = false := by unfold Builtin.Bytes.tooLong; rw [sizeLine_eq]; simp; omega
  simp only [f1, Bool.not_true, Bool.false_eq_true, if_false, if_neg f2, f3, f4]
  refine wpAny_bind (wpAny_rule ?_)
  rw [if_pos (show n > 0 from h0)]
  refine wpAny_bind (write_ba (s := { s with heap := h₁ }) ho₁ (by rw [sizeLine_eq, Array.size_replicate]; omega) fun h₂ sb₂ ho₂ => ?_)
  exact wpAny_pure (h h₂ (sb₁.trans sb₂) ho₂)

theorem call_ba {n : Int} {t : Tok} {Q : Value → Shared → Prop} (h0 : 0 < n) (h1 : n ≤ 1000)
    (h : ∀ h', Heap.SameBut s.heap.objs.size (s.heap.push (baO #[])) h' → h'.get? s.heap.objs.size = some (baO (Array.replicate n.toNat 0)) → Q (.ref s.heap.objs.size) { s with heap := h' }) :
    wpC (model prog w) A (call (.type "bytearray") [.int n t]) Q E s := by
  refine callType_ba (Q₁ := fun obj s₁ => obj = .ref s.heap.objs.size ∧ s₁ = { s with heap := s.heap.push (baO #[]) }) (Fb.typeCall_ba _) (code_ba_new _ ⟨rfl, rfl⟩) fun obj s₁ hq => ?_
  obtain ⟨rfl, rfl⟩ := hq
  have hS : (s.heap.push (baO #[])).get? s.heap.objs.size = some (baO #[]) := Heap.get?_push_size _ rfl
  exact ⟨⟨_, hS, rfl⟩, Fb.args_ba_init _ _, init_ba hS h0 h1 fun h' sb ho => ⟨rfl, h h' sb ho⟩⟩
end
/-! W5 -/
namespace Fb
theorem ba_no_bytes : typeLookup (.type "bytearray") "__bytes__" = pure none := by rw [typeLookup_type, builtinLookup_eq_fast]; kernel_rfl
theorem ba_no_index : typeLookup (.type "bytearray") "__index__" = pure none := by rw [typeLookup_type, builtinLookup_eq_fast]; kernel_rfl
theorem ba_buffer : typeLookup (.type "bytearray") "__buffer__" = pure (some (.builtin "bytearray.__buffer__")) := by rw [typeLookup_type, builtinLookup_eq_fast]; kernel_rfl
end Fb
section
variable {prog : Program} {w : World} {M : Model} {A : Around} {E : Value → Shared → Prop} {s : Shared}
theorem setItem_ba {a : Addr} {b : Array UInt8} {k x : Int} {t u : Tok} {Q : Unit → Shared → Prop} (ho : s.heap.get? a = some (baO b)) (h0 : 0 ≤ k) (h1 : k < b.size) (hb : b.size ≤ 1000) (x0 : 0 ≤ x) (x1 : x < 256)
    (h : ∀ h', Heap.SameBut a s.heap h' → h'.get? a = some (baO (b.setIfInBounds k.toNat x.toNat.toUInt8)) → Q () { s with heap := h' }) :
    wpAny (model prog w) A (setItem (.ref a) (.int k t) (.int x u)) Q E s := by
  have hT : s.TypeIs (.ref a) "bytearray" := ⟨_, ho, rfl⟩
  unfold setItem
  refine wpAny_holding ?_
  refine wpAny_bind (wpAny_sequenceKey hT (by decide +kernel) ?_)
  refine wpAny_bind (wpAny_callSpecial?_slot (name := Str.ofString "__setitem__") hT Fb.slot_ba_setitem
    (wpAny_call_entry Fb.slot_ba_setitem hT Fb.entry_ba_setitem ?_ (Fb.args_ba_setitem _ _ _)))
  unfold Builtin.«bytearray.__setitem__»
  refine bm_if_false rfl ?_
  dsimp only
  unfold Builtin.Bytes.subscript?
  refine wpAny_bind (wpAny_bind (wpAny_specialOf (typeIs_int _ k t) F.slot_int_index.lookup ?_))
  refine bm_if_false rfl ?_
  refine wpAny_bind (wpAny_of_eq (rfl : asIndex (.int k t) = pure k) ?_)
  have f1 : Builtin.Bytes.fitsIndex k = true := by unfold Builtin.Bytes.fitsIndex; simp; omega
  refine bm_if_false (by rw [f1]; rfl) ?_
  refine wpAny_pure ?_
  dsimp only
  unfold Builtin.Bytes.byteValue
  refine wpAny_bind (wpAny_bind (wpAny_of_eq (rfl : asIndex (.int x u) = pure x) ?_))
  refine bm_if_false (by simp only [Bool.or_eq_false_iff, decide_eq_false_iff_not]; omega) ?_
  refine wpAny_pure ?_
  unfold Builtin.Bytes.payload Builtin.Bytes.payload?
  refine wpAny_bind (wpAny_bind (wpAny_bind (wpAny_load ho ?_)))
  refine wpAny_pure (wpAny_pure ?_)
  have hj : seqIndex? k b.size = some k.toNat := by
    unfold seqIndex?
    have hk : ¬ k < 0 := by omega
    simp only [if_neg hk]
    rw [if_pos (by simp; omega)]
  rw [hj]
  dsimp only
  refine wpAny_bind (write_ba ho (by simp; rw [sizeLine_eq]; omega) fun h' sb ho' => ?_)
  first
    | exact wpAny_bind (wpAny_pure (wpAny_pure ⟨.none, rfl, wpAny_pure (h h' sb ho')⟩))
    | exact wpAny_pure ⟨.none, rfl, wpAny_pure (h h' sb ho')⟩

theorem new_ba {a : Addr} {b : Array UInt8} {Q : Value → Shared → Prop} (ho : s.heap.get? a = some (baO b)) (hz : b.size ≤ sizeLine)
    (hQ : ∀ t k, Q (.bytes b t) { s with toks := k }) :
    codeAny (model prog w) A (.call (.builtin "bytes.__new__") ⟨[.type "bytes", .ref a], []⟩) (wants Q E) s := by
  refine codeAny_of_tree ?_
  show wpAny _ A.in1 (do checkBuiltinCall "bytes.__new__" ⟨[.type "bytes", .ref a], []⟩; again (.builtin "bytes.__new__" ⟨[.type "bytes", .ref a], []⟩)) _ _ s
  refine wpAny_bind (wpAny_of_eq (F.bm_newCall _) (wpAny_pure ⟨plainId_quiet F.bm_plain _, codeAny_builtin F.bm_entry ?_⟩))
  rw [Around.under_plainId F.bm_plain _]
  have hT : s.TypeIs (.ref a) "bytearray" := ⟨_, ho, rfl⟩
  unfold Builtin.«bytes.__new__»
  refine wpAny_bind (wpAny_of_eq (a := true) rfl ?_)
  refine bm_if_false rfl ?_
  refine wpAny_bind (wpAny_of_eq F.bm_sub ?_)
  refine bm_if_false rfl ?_
  refine wpAny_bind (wpAny_of_eq (F.bm_bind _) ?_)
  refine wpAny_bind (wpAny_of_eq (a := ()) rfl ?_)
  refine wpAny_bind (wpAny_of_eq (a := ()) rfl ?_)
  refine bm_if_false rfl ?_
  refine wpAny_bind (wpAny_specialOf hT Fb.ba_no_bytes ?_)
  refine wpAny_bind (wpAny_bind ?_)
  show wpAny _ _ (load a >>= _) _ _ _
  refine wpAny_bind (wpAny_load ho ?_)
  refine wpAny_pure (wpAny_pure ?_)
  refine bm_if_false rfl ?_
  refine wpAny_bind (wpAny_specialOf hT Fb.ba_no_index ?_)
  refine bm_if_true rfl ?_
  first
    | show wpAny _ _ (Builtin.Bytes.buffer? "bytes.__new__" (.ref a) true >>= _) _ _ _
    | (refine wpAny_bind ?_; show wpAny _ _ (Builtin.Bytes.buffer? "bytes.__new__" (.ref a) true >>= _) _ _ _)
  refine wpAny_bind ?_
  unfold Builtin.Bytes.buffer?
  refine wpAny_bind (wpAny_specialOf hT Fb.ba_buffer ?_)
  dsimp only
  unfold Builtin.Bytes.slotIsOwn
  refine wpAny_bind (wpAny_bind (wpAny_specialOf hT Fb.ba_buffer ?_))
  dsimp only
  have e1 : ("bytearray.__buffer__".endsWith ("." ++ "__buffer__")) = true := by decide +kernel
  have e2 : (("bytearray.__buffer__".dropRight ("__buffer__".length + 1)) : String) = "bytearray" := by decide +kernel
  rw [e1]
  simp only [Bool.not_true, Bool.false_eq_true, if_false]
  rw [e2]
  refine wpAny_isInstance hT Fb.sub_ba_self ?_
  refine bm_if_false rfl ?_
  refine wpAny_bind (wpAny_specialOf hT Fb.ba_buffer ?_)
  refine wpAny_bind (ownRelease_ba hT ?_)
  refine bm_if_false rfl ?_
  unfold Builtin.Bytes.payload Builtin.Bytes.payload?
  refine wpAny_bind (wpAny_bind (wpAny_bind (wpAny_load ho ?_)))
  refine wpAny_pure (wpAny_pure (wpAny_pure ?_))
  dsimp only
  refine wpAny_bind (wpAny_rule ?_)
  refine wpAny_bind (wpAny_mkBytes ?_ hz)
  have fin : wpAny (model prog w) A.in1 (ret (.bytes b s.toks)) (fun fin s' => match fin with | .done f => wants Q E (.ok f) s' | .again c' => c'.quiet = true ∧ codeAny (model prog w) A c' (wants Q E) s') (fun e s' => wants Q E (.error e) s') { s with toks := s.toks + 1 } := wpAny_pure (hQ _ _)
  show wpAny _ _ (if (Value.type "bytes" == Value.type "bytes") = true then _ else _) _ _ _
  refine bm_if_true (by decide) ?_
  first
    | exact fin
    | exact wpAny_bind (wpAny_pure (wpAny_pure (hQ _ _)))

theorem call_bytes_ba {a : Addr} {b : Array UInt8} {Q : Value → Shared → Prop} (ho : s.heap.get? a = some (baO b)) (hz : b.size ≤ sizeLine)
    (hQ : ∀ t k, Q (.bytes b t) { s with toks := k }) : wpAny (model prog w) A (call (.type "bytes") [.ref a]) Q E s := by
  refine callType_codes (Q₁ := fun obj s₁ => s₁.TypeIs obj "bytes" ∧ Q obj s₁) F.bm_called (F.bm_typeCall _) F.entry_object_init
    (new_ba ho hz fun t k => ⟨PySem.W.typeIs_bytes _ _ _, hQ t k⟩) fun obj s₁ h₁ => ?_
  exact ⟨h₁.1, F.args_object_init_2 obj _, object_init_meets F.bm_called.init.lookup F.bm_called.made (by decide) prog w A.in1 _ s₁ ⟨h₁.1, rfl, h₁.2⟩⟩
end
/-! W6 -/
section
variable {M : Model} {A : Around} {E : Value → Shared → Prop} {s : Shared} {K : Frag} {env : Env} {pos : Pos} {f : Value} {first : List Value} {Q : Value → Shared → Prop}
theorem callWithC_of {P : Heap → Prop} {args : List (Bool × Sem Value)} {keywords : List (Option Str × Sem Value)} (hplain : (args.any (·.1) || keywords.any (·.1.isNone)) = false)
    (hk : ∀ h, P h → ∃ k, (k = Keeper.frame ∨ k = Keeper.machine ∨ k = Keeper.boundFrame) ∧ Looks M h (keeperOf f) k)
    (h : wpAny M A (evalArgs f true args keywords) (fun a s₁ => P s₁.heap ∧ wpC M A (call f (first ++ a.pos) a.kw) Q E s₁) E s) : wpC M A (callWith pos f first args keywords) Q E s := by
  unfold callWith
  refine wpC_ab (wpAny_holding (wpAny_mono h (fun a s₁ h₁ => wpC_ab (wpAny_standAt ?_)) fun _ _ x => x))
  obtain ⟨k, hk', L⟩ := hk _ h₁.1
  simp only [hplain]
  refine wpC_ab (L.here ?_)
  have tail : ∀ {t : Sem Value}, wpC M A t Q E s₁ → wpC M A (t >>= fun r => holding [r] point >>= fun _ => pure r) Q E s₁ :=
    fun ht => wpC_bind (wpC_mono ht (fun r s₂ hr => wpC_any (wpAny_bind (wpAny_holding (wpAny_point (wpAny_pure hr))))) fun _ _ x => x)
  have marked (mk : Value) : wpC M A (callMarked mk f (first ++ a.pos) a.kw) Q E s₁ := by unfold callMarked; exact wpC_keep h₁.2
  rcases hk' with rfl | rfl | rfl <;> dsimp only <;> first | exact tail h₁.2 | (split <;> first | exact tail h₁.2 | exact tail (marked _))
theorem callWithC_K {h₀ : Heap} {e : Expr} {rest : List Expr} (_X : K.In h₀) (hk : keepIn K f = true) (h : wpAny M A (spliced (backTo pos (starEach (e :: rest) env))) (fun vs s₁ => K.In s₁.heap ∧ wpC M A (call f (first ++ vs)) Q E s₁) E s)
    (he : starEach (e :: rest) env = (false, eval e env) :: starEach rest env := by rfl) (hplain : (backTo pos (starEach rest env)).any (·.1) = false := by rfl) :
    wpC M A (callWith pos f first (backTo pos (starEach (e :: rest) env)) []) Q E s := by
  rw [he] at h ⊢
  exact callWithC_of (by show ((false || (backTo pos (starEach rest env)).any (·.1)) || false) = false; rw [hplain]; rfl) (keeps_K hk) (evalArgs_plain h)
theorem callWithC_type1 {T : String} {e : Expr} {rest : List Expr} (h : wpAny M A (spliced (backTo pos (starEach (e :: rest) env))) (fun vs s₁ => wpC M A (call (.type T) vs) Q E s₁) E s)
    (he : starEach (e :: rest) env = (false, eval e env) :: starEach rest env := by rfl) (hplain : (backTo pos (starEach rest env)).any (·.1) = false := by rfl) :
    wpC M A (callWith pos (.type T) [] (backTo pos (starEach (e :: rest) env)) []) Q E s := by
  rw [he] at h ⊢
  exact wpC_callWith_type (by show (false || (backTo pos (starEach rest env)).any (·.1)) = false; rw [hplain]; rfl) (evalArgs_plain h)
end
section
variable {prog : Program} {w : World} {A : Around} {E : Value → Shared → Prop} {s : Shared} {h₀ : Heap} {L a d : Addr} {m : Str → Option Value} {news : Led} {b : Array UInt8}
theorem call_baN {n : Int} {t : Tok} {Q : Value → Shared → Prop} (F : Fr h₀ L s.heap m) (N : News h₀ L s.heap news) (h0 : 0 < n) (h1 : n ≤ 1000)
    (h : ∀ D h', Fr h₀ L h' m → News h₀ L h' ((D, baO (Array.replicate n.toNat 0)) :: news) → (∀ p ∈ news, p.1 < D) → Q (.ref D) { s with heap := h' }) : wpC (model prog w) A (call (.type "bytearray") [.int n t]) Q E s := by
  refine call_ba h0 h1 fun h' sb ho => ?_
  have up : ∀ b o, s.heap.get? b = some o → h'.get? b = some o := fun b o e => sb.extBut b o (Nat.ne_of_lt (Heap.lt_size e)) (Heap.get?_push_of_some _ e)
  refine h _ h' (F.keeps up) (fun p hp => ?_) (fun p hp => Heap.lt_size (N p hp).1)
  rcases List.mem_cons.mp hp with rfl | hp
  · exact ⟨ho, Nat.ne_of_gt F.ns.lt, Heap.get?_none_of_le (Nat.le_trans F.above (Nat.le_of_lt F.ns.lt))⟩
  · exact ⟨up _ _ (N p hp).1, (N p hp).2⟩
theorem setItem_baN {g : Obj → Led} {k x : Int} {t u : Tok} {Q : Unit → Shared → Prop} (F : Fr h₀ L s.heap m) (N : News h₀ L s.heap news) (U : UpdF d (baO b) news g) (h0 : 0 ≤ k) (h1 : k < b.size) (hb : b.size ≤ 1000) (x0 : 0 ≤ x) (x1 : x < 256)
    (h : ∀ h', Fr h₀ L h' m → News h₀ L h' (g (baO (b.setIfInBounds k.toNat x.toNat.toUInt8))) → Q () { s with heap := h' }) : wpAny (model prog w) A (setItem (.ref d) (.int k t) (.int x u)) Q E s := by
  obtain ⟨own, rest, rfl, hg, a1, a2⟩ := U.split
  have hmem := N (d, baO b) (List.mem_append_right _ (.head _))
  refine setItem_ba hmem.1 h0 h1 hb x0 x1 fun h' hs ho' => ?_
  refine h h' ⟨F.ns.sameBut hs (Ne.symm hmem.2.1), fun b ob e => (hs.2 b (fun q => ?_)).trans (F.keep b ob e), F.above⟩ (hg _ ▸ N.setAt a1 a2 hs ho')
  rw [q, hmem.2.2] at e; cases e
theorem call_bytes_baN {Q : Value → Shared → Prop} (N : News h₀ L s.heap news) (hm : (d, baO b) ∈ news) (hz : b.size ≤ 1000) (hQ : ∀ t k, Q (.bytes b t) { s with toks := k }) : wpAny (model prog w) A (call (.type "bytes") [.ref d]) Q E s :=
  call_bytes_ba (N _ hm).1 (Nat.le_trans hz (by rw [sizeLine_eq]; omega)) hQ
end
section
variable {prog : Program} {w : World} {A : Around} {E : Value → Shared → Prop} {s : Shared} {h₀ : Heap} {L a d : Addr} {m : Str → Option Value} {news : Led} {b : Array UInt8}
theorem call_ba6 {t : Tok} {Q : Value → Shared → Prop} (F : Fr h₀ L s.heap m) (N : News h₀ L s.heap news)
    (h : ∀ D h', Fr h₀ L h' m → News h₀ L h' ((D, baO #[0, 0, 0, 0, 0, 0]) :: news) → (∀ p ∈ news, p.1 < D) → Q (.ref D) { s with heap := h' }) : wpC (model prog w) A (call (.type "bytearray") [.int 6 t]) Q E s :=
  call_baN (n := 6) F N (by decide) (by decide) h
theorem setItem_baJ {g : Obj → Led} {k x : Int} {j : Nat} {c : UInt8} {t u : Tok} {Q : Unit → Shared → Prop} (F : Fr h₀ L s.heap m) (N : News h₀ L s.heap news) (U : UpdF d (baO b) news g) (hk : k = (j : Int)) (h1 : j < b.size) (hb : b.size ≤ 1000) (hx : x = (c.toNat : Int))
    (h : ∀ h', Fr h₀ L h' m → News h₀ L h' (g (baO (b.setIfInBounds j c))) → Q () { s with heap := h' }) : wpAny (model prog w) A (setItem (.ref d) (.int k t) (.int x u)) Q E s := by
  subst hk hx
  have hc : c.toNat < 256 := c.toNat_lt
  refine setItem_baN F N U (by omega) (by omega) hb (by omega) (by omega) fun h' F' N' => h h' F' ?_
  have e1 : ((j : Int)).toNat = j := by simp
  have e2 : ((c.toNat : Int)).toNat.toUInt8 = c := by
    rw [Int.toNat_natCast]
    exact UInt8.ofNat_toNat
  rw [e1, e2] at N'
  exact N'
end
/-- a stop of the walk -/
def Wait (P : Prop) : Prop := P
theorem iter_rangeW {prog : Program} {w : World} {A : Around} {E : Value → Shared → Prop} {s : Shared} {env : Env} {h₀ : Heap} {x : Str} {body : List Stmt} {Q : Flow → Shared → Prop} {r : Addr} {b₀ : Int} {t₀ u₀ v₀ : Tok} {n : Nat} {m₀ : Str → Option Value} {news : List (Addr × Obj)}
    (hh : A.handled = none) (hr : IsRange s.heap r 0 b₀ 1 t₀ u₀ v₀) (hb : b₀ = (n : Int)) (hn : n ≤ 1000) (F : Fr h₀ env.locals s.heap m₀) (N : News h₀ env.locals s.heap news)
    (rest₀ : Wait (∀ I : Addr, (∀ p ∈ news, p.1 < I) → RangeRest prog w A E h₀ env x body Q s I 0 n n 0 m₀ news)) :
    wpAny (model prog w) A (pyIter (.ref r)) (fun it s₂ => LoopAtV prog w A h₀ env x body Q E it s₂) E s := by
  subst hb
  exact iter_rangeUnr hh hr (small_nat hn) (size_nat n) F N rest₀
theorem words_W61 : True := by
  k_with "my:pyIter ref" => (((with_reducible show wpAny _ _ (pyIter (Value.ref _)) (fun it s₂ => LoopAtV _ _ _ _ _ _ _ _ _ it s₂) _ _); (rename Fr _ _ _ _ => lFₓ); (rename News _ _ _ _ => lNₓ); (rename IsRange _ _ _ _ _ _ _ _ => lRₓ); (with_unfolding_all refine iter_rangeW (by rfl) lRₓ (by rfl) (by first | decide | omega) lFₓ lNₓ ?_); clear lFₓ lNₓ))
  k_with "my:call type:bytes" => ((k_here; (with_reducible show wpAny _ _ (call (Value.type "bytes") [Value.ref _]) _ _ _); k_dflt (refine' call_bytes_baN ?Nₓ ?mₓ ?zₓ ?_; (case Nₓ => k_asm); (case mₓ => k_mem); (case zₓ => exact Nat.le_of_ble_eq_true rfl)); intro _ _))
  trivial

theorem wpC_noRaise {α : Type} {M : Model} {A : Around} {t : Sem α} {Q : α → Shared → Prop} {E : Value → Shared → Prop} {s : Shared} (h : wpC M A t Q (fun _ _ => False) s) : wpC M A t Q E s := wpC_mono h (fun _ _ x => x) fun _ _ x => x.elim
theorem wpC_qabs {α : Type} {M : Model} {A : Around} {t : Sem α} {Q : α → Shared → Prop} {E : Value → Shared → Prop} {s : Shared} (h : ∀ Q' : α → Shared → Prop, Q' = Q → wpC M A t Q' E s) : wpC M A t Q E s := h Q rfl
def TelC (w : World) (mean : ExcName → Option Value) (mg mb : Str → Option Value) (D U : Nat) (f : Addr) (vs : List Value) (kw : List (Str × Value)) (news : Led) (Post : Value → Led → Prop) : Prop :=
  ∀ (dp un : Nat) (gd : Option (List Code)) (cn : Str) (cs : Scope) (a : Addr) (ccd : Value) (cl : List (Str × Addr)) (outer : List Env) (A₀ : Around) (base h₀ : Heap) (L : Addr) (m : Str → Option Value) (s : Shared) (Q E : Value → Shared → Prop),
    Below A₀ base outer h₀ → Fr h₀ L s.heap m → (Mine.hd.heap_1 w.params).In h₀ → News h₀ L s.heap news → Top Mine.hd.view_1 [Str.ofString "insort_right", Str.ofString "bisect_right", Str.ofString "bisect_left"] mean mg mb h₀ → cs.kind = .function →
    dp + D < recursionLimit → un + U < cLine →
    (∀ r news' h' tk', Fr h₀ L h' m → News h₀ L h' news' → Post r news' → Q r { s with heap := h', toks := tk' }) →
    wpC (model PySem.Challenge.rw_wf0032_01.row.prog w) (ktrTop dp un gd cn cs L a ccd cl outer) (call (.ref f) vs kw) Q E s


/-- the octets turned about, the first j of them -/
def swp (b : List UInt8) : Nat → Array UInt8
  | 0 => #[0, 0, 0, 0, 0, 0]
  | j + 1 => (swp b j).setIfInBounds (5 - j) (b.getD (0 + (j : Int)).toNat 0)
theorem swp_size (b : List UInt8) : ∀ j, (swp b j).size = 6
  | 0 => rfl
  | j + 1 => by simp only [swp, Array.size_setIfInBounds]; exact swp_size b j
theorem swp_all (x0 x1 x2 x3 x4 x5 : UInt8) : swp [x0, x1, x2, x3, x4, x5] 6 = #[x5, x4, x3, x2, x1, x0] := by rfl
set_option maxHeartbeats 8000000 in
theorem swap_tel (w : World) (mean : ExcName → Option Value) (mg mb : Str → Option Value) (news : Led) (x0 x1 x2 x3 x4 x5 : UInt8) (t1 t2 : Tok) :
    TelC w mean mg mb 2 16 90 [.bytes #[x0, x1, x2, x3, x4, x5] t1, .int 6 t2] [] news (fun r news' => news' = news ∧ ∃ t, r = .bytes #[x5, x4, x3, x2, x1, x0] t) := by
  w_top off
  unfold TelC
  k_fill
  intro dp un gd cn cs a ccd cl outer A₀ base h₀ L m s Q E B F X N T hk hd hu hret
  refine wpC_call ?_
  k_dflt (refine' codeC_def ?k1 ?k2 ?k3 ?k4 ?k5 ?kA ?kF ?kK ?k6 ?k7 ?k8 ?k9 ?kB ?_ ?c2 ?c3 ?c4 ?c5; (case kA => exact rfl); (case kF => exact rfl); (case kK => assumption); (case k1 => k_asm); (case k2 => k_asm); (case k3 => k_asm); (case k4 => k_asm); (case k5 => k_asm); (case k6 => k_is); (case k7 => k_is); (case k8 => ktr_room); (case k9 => first | exact BindsTo.of_eq rfl | exact kp_binds (by k_in) (fun _ => rfl) | exact binds_K (by k_in) rfl (by k_is) rfl rfl rfl); (case c5 => decide); (case kB => exact locs rfl); (case c2 => exact rfl); (case c3 => exact rfl); (case c4 => exact rfl); k_whole; intro g' L' h' FG' F' N' B' X' T'; (try dsimp only); (try k_lift B'))
  refine wpC_noRaise ?_
  refine wpC_qabs fun Q0 hQ0 => ?_
  refine wpC_execs (wpC_Assign_Name (wpC_Call_Name ?_))
  k_steps
  refine callWithC_type1 ?_
  k_steps
  refine call_ba6 (by k_asm) (by k_asm) fun D h' F' N' l1 => ?_
  k_steps
  refine wpC_any ?_
  k_steps
  rename Fr _ _ _ _ => F1
  rename News _ _ _ _ => N1
  rename IsRange _ _ _ _ _ _ _ _ => R1
  refine krs_iter (n := 1) (b₀ := 6) (by rfl) R1 (by decide) (by decide) F1 N1 (fun I l2 => KrsRest.succ (v := 0) rfl fun t h tk F2 N2 => ?_)
  have l3 : @LT.lt Nat _ D I := l2 _ (.head _)
  have l4 : ∀ p ∈ news, p.1 < I := fun p hp => l2 p (.tail _ hp)
  k_steps
  intro I2 l5x
  refine range_st (σ := Array UInt8) (fun q => (I, krsIt (0 + ((0 + 1 : Nat) : Int) * 6) ((1 : Nat) - ((0 + 1 : Nat) : Int)) 6) :: (D, baO q) :: news) (fun _ => []) [Str.ofString "j"] (fun j q => q = swp [x0, x1, x2, x3, x4, x5] j) (swp [x0, x1, x2, x3, x4, x5] 0) (fun p hp => ?_) (by kst_all) rfl ?_ ?_
  · exact hp
  · rintro j q u t h tk hj rfl F1 N1
    have l6 : @LT.lt Nat _ I I2 := l5x _ (.head _)
    have l7 : @LT.lt Nat _ D I2 := l5x _ (.tail _ (.head _))
    have l8 : ∀ p ∈ news, p.1 < I2 := fun p hp => l5x p (.tail _ (.tail _ hp))
    have hsz := swp_size [x0, x1, x2, x3, x4, x5] j
    have hj6 : j < 6 := hj
    refine wp_abs fun Q9 hQ9 => ?_
    k_steps
    refine setItem_baJ (j := 5 - j) (by k_asm) (by k_asm) (by k_updF) (by omega) (by omega) (by omega) rfl fun h' F' N' => ?_
    k_steps
    subst hQ9
    refine' range_end (swp [x0, x1, x2, x3, x4, x5] (j + 1)) (by assumption) (by assumption) (.head _) ?hs ?ho rfl ?k ?z
    case k => kst_all
    case z => ksw_same
    case hs => exact fun p hp => .tail _ hp
    case ho => exact List.forall_mem_cons.mpr ⟨Nat.ne_of_lt l6, List.forall_mem_cons.mpr ⟨Nat.ne_of_lt l7, allNe_of l8⟩⟩
  · rintro q u h tk rfl F1 N1
    k_steps
    refine unrEnd_outs (by k_asm) (by k_asm) (Outs.here (List.forall_mem_cons.mpr ⟨Nat.ne_of_lt l3, allNe_of l4⟩)) (KrsRest.zero fun h tk F N => ?_)
    have hsz := swp_size [x0, x1, x2, x3, x4, x5] 6
    subst hQ0
    k_steps
    exact hret _ _ _ _ (by assumption) (fun p hp => (by assumption : News h₀ L _ _) p (.tail _ hp)) ⟨rfl, _, by rw [swp_all]⟩
end
theorem words_again : True := by
  k_with_none
  k_with "my:cell_enter" => ((refine' code_def ?k1ₓ ?k2ₓ ?k3ₓ ?k4ₓ ?k5ₓ ?kAₓ ?kFₓ ?kKₓ ?k6ₓ ?k7ₓ ?k8ₓ ?k9ₓ ?kBₓ ?_ ?c2ₓ ?c3ₓ ?c4ₓ ?c5ₓ; (case kAₓ => exact rfl); (case kFₓ => exact rfl); (case kKₓ => assumption); (case k1ₓ => k_asm); (case k2ₓ => k_asm); (case k3ₓ => k_asm); (case k4ₓ => k_asm); (case k5ₓ => k_asm); (case k6ₓ => k_is); (case k7ₓ => k_is); (case k8ₓ => ktr_room); (case k9ₓ => first | exact BindsTo.of_eq rfl | exact kp_binds (by k_in) (fun _ => rfl) | exact binds_K (by k_in) rfl (by k_is) rfl rfl rfl); (case c5ₓ => decide); (case kBₓ => exact locs rfl); (case c2ₓ => exact rfl); (case c3ₓ => exact rfl); (case c4ₓ => exact rfl); k_whole; intro gₓ Lₓ hₓ FGₓ Fₓ Nₓ Bₓ Xₓ Tₓ; (try dsimp only); (try k_lift Bₓ); (try k_fold)))
  k_with "my:k_ne" => ((refine neN ?_; (try dsimp only); with_reducible first | exact Nat.ne_of_lt (by assumption) | exact Nat.ne_of_gt (by assumption) | exact Nat.ne_of_lt (And.left (by assumption)) | exact Nat.ne_of_gt (And.left (by assumption)) | exact Nat.ne_of_lt (And.left (And.right (by assumption))) | exact Nat.ne_of_gt (And.left (And.right (by assumption))) | exact Nat.ne_of_lt (And.left (And.right (And.right (by assumption)))) | exact Nat.ne_of_gt (And.left (And.right (And.right (by assumption)))) | exact Nat.ne_of_lt (And.left (And.right (And.right (And.right (by assumption))))) | exact Nat.ne_of_gt (And.left (And.right (And.right (And.right (by assumption))))) | exact Nat.ne_of_lt (And.left (And.right (And.right (And.right (And.right (by assumption)))))) | exact Nat.ne_of_gt (And.left (And.right (And.right (And.right (And.right (by assumption)))))) | exact Nat.ne_of_lt (And.left (And.right (And.right (And.right (And.right (And.right (by assumption))))))) | exact Nat.ne_of_gt (And.left (And.right (And.right (And.right (And.right (And.right (by assumption))))))) | exact Nat.ne_of_lt (And.left (And.right (And.right (And.right (And.right (And.right (And.right (by assumption)))))))) | exact Nat.ne_of_gt (And.left (And.right (And.right (And.right (And.right (And.right (And.right (by assumption)))))))) | exact Nat.ne_of_lt (And.left (And.right (And.right (And.right (And.right (And.right (And.right (And.right (by assumption))))))))) | exact Nat.ne_of_gt (And.left (And.right (And.right (And.right (And.right (And.right (And.right (And.right (by assumption))))))))) | exact Nat.ne_of_lt (And.left (And.right (And.right (And.right (And.right (And.right (And.right (And.right (And.right (by assumption)))))))))) | exact Nat.ne_of_gt (And.left (And.right (And.right (And.right (And.right (And.right (And.right (And.right (And.right (by assumption)))))))))) | exact Nat.ne_of_lt (And.left (And.right (And.right (And.right (And.right (And.right (And.right (And.right (And.right (And.right (by assumption))))))))))) | exact Nat.ne_of_gt (And.left (And.right (And.right (And.right (And.right (And.right (And.right (And.right (And.right (And.right (by assumption))))))))))) | exact Nat.ne_of_lt (And.left (And.right (And.right (And.right (And.right (And.right (And.right (And.right (And.right (And.right (And.right (by assumption)))))))))))) | exact Nat.ne_of_gt (And.left (And.right (And.right (And.right (And.right (And.right (And.right (And.right (And.right (And.right (And.right (by assumption)))))))))))) | exact Nat.ne_of_lt (And.left (And.right (And.right (And.right (And.right (And.right (And.right (And.right (And.right (And.right (And.right (And.right (by assumption))))))))))))) | exact Nat.ne_of_gt (And.left (And.right (And.right (And.right (And.right (And.right (And.right (And.right (And.right (And.right (And.right (And.right (by assumption))))))))))))) | exact Nat.ne_of_lt (And.left (And.right (And.right (And.right (And.right (And.right (And.right (And.right (And.right (And.right (And.right (And.right (And.right (by assumption)))))))))))))) | exact Nat.ne_of_gt (And.left (And.right (And.right (And.right (And.right (And.right (And.right (And.right (And.right (And.right (And.right (And.right (And.right (by assumption)))))))))))))) | exact Nat.ne_of_lt (And.left (And.right (And.right (And.right (And.right (And.right (And.right (And.right (And.right (And.right (And.right (And.right (And.right (And.right (by assumption))))))))))))))) | exact Nat.ne_of_gt (And.left (And.right (And.right (And.right (And.right (And.right (And.right (And.right (And.right (And.right (And.right (And.right (And.right (And.right (by assumption))))))))))))))) | exact Nat.ne_of_lt (And.left (And.right (And.right (And.right (And.right (And.right (And.right (And.right (And.right (And.right (And.right (And.right (And.right (And.right (And.right (by assumption)))))))))))))))) | exact Nat.ne_of_gt (And.left (And.right (And.right (And.right (And.right (And.right (And.right (And.right (And.right (And.right (And.right (And.right (And.right (And.right (And.right (by assumption)))))))))))))))) | exact Nat.ne_of_lt (And.left (And.right (And.right (And.right (And.right (And.right (And.right (And.right (And.right (And.right (And.right (And.right (And.right (And.right (And.right (And.right (by assumption))))))))))))))))) | exact Nat.ne_of_gt (And.left (And.right (And.right (And.right (And.right (And.right (And.right (And.right (And.right (And.right (And.right (And.right (And.right (And.right (And.right (And.right (by assumption))))))))))))))))) | exact Nat.ne_of_lt (And.left (And.right (And.right (And.right (And.right (And.right (And.right (And.right (And.right (And.right (And.right (And.right (And.right (And.right (And.right (And.right (And.right (by assumption)))))))))))))))))) | exact Nat.ne_of_gt (And.left (And.right (And.right (And.right (And.right (And.right (And.right (And.right (And.right (And.right (And.right (And.right (And.right (And.right (And.right (And.right (And.right (by assumption)))))))))))))))))) | exact Nat.ne_of_lt (And.left (And.right (And.right (And.right (And.right (And.right (And.right (And.right (And.right (And.right (And.right (And.right (And.right (And.right (And.right (And.right (And.right (And.right (by assumption))))))))))))))))))) | exact Nat.ne_of_gt (And.left (And.right (And.right (And.right (And.right (And.right (And.right (And.right (And.right (And.right (And.right (And.right (And.right (And.right (And.right (And.right (And.right (And.right (by assumption))))))))))))))))))) | exact Nat.ne_of_lt (And.left (And.right (And.right (And.right (And.right (And.right (And.right (And.right (And.right (And.right (And.right (And.right (And.right (And.right (And.right (And.right (And.right (And.right (And.right (by assumption)))))))))))))))))))) | exact Nat.ne_of_gt (And.left (And.right (And.right (And.right (And.right (And.right (And.right (And.right (And.right (And.right (And.right (And.right (And.right (And.right (And.right (And.right (And.right (And.right (And.right (by assumption)))))))))))))))))))) | exact Nat.ne_of_lt (And.left (And.right (And.right (And.right (And.right (And.right (And.right (And.right (And.right (And.right (And.right (And.right (And.right (And.right (And.right (And.right (And.right (And.right (And.right (And.right (by assumption))))))))))))))))))))) | exact Nat.ne_of_gt (And.left (And.right (And.right (And.right (And.right (And.right (And.right (And.right (And.right (And.right (And.right (And.right (And.right (And.right (And.right (And.right (And.right (And.right (And.right (And.right (by assumption)))))))))))))))))))))))
  k_with "my:k_all" => (exact allNe_of (by assumption))
  k_with "my:k_mem" => (first | assumption | (refine' List.Mem.tail _ ?_; assumption) | (refine' List.Mem.tail _ (List.Mem.tail _ ?_); assumption) | (refine' List.Mem.tail _ (List.Mem.tail _ (List.Mem.tail _ ?_)); assumption) | (refine' List.Mem.tail _ (List.Mem.tail _ (List.Mem.tail _ (List.Mem.tail _ ?_))); assumption) | (refine' List.Mem.tail _ (List.Mem.tail _ (List.Mem.tail _ (List.Mem.tail _ (List.Mem.tail _ ?_)))); assumption) | (refine' List.Mem.tail _ (List.Mem.tail _ (List.Mem.tail _ (List.Mem.tail _ (List.Mem.tail _ (List.Mem.tail _ ?_))))); assumption))
  k_with "my:subscriptTail" => ((k_here; (with_reducible show wpAny _ _ (subscriptTail _ _ (Value.ref _) (Value.int _ _)) _ _ _); (with_unfolding_all refine' item_led ?k1ₓ ?k2ₓ ?k3ₓ ?k4ₓ ?k5ₓ ?k6ₓ ?k8ₓ ?_ ?k7ₓ; (case k8ₓ => first | exact (rfl : _ = 0) | exact (rfl : _ = 1) | exact (rfl : _ = 2) | exact (rfl : _ = 3) | exact (rfl : _ = 4) | (simp only [Int.toNat_natCast]; rfl) | rfl); (case k1ₓ => k_asm); (case k2ₓ => k_mem); (case k3ₓ => l_ints); (case k4ₓ => first | omega | (rw [fdiv_eq _ (show (0 : Int) < 2 by decide)]; omega)); (case k5ₓ => first | omega | (rw [fdiv_eq _ (show (0 : Int) < 2 by decide)]; omega)); (case k6ₓ => omega); (case k7ₓ => with_unfolding_all rfl); k_whole); intro _))
  k_with "my:subscriptTail Name Name ref int" => ((k_here; (with_reducible show wpAny _ _ (subscriptTail _ _ (Value.ref _) (Value.int _ _)) _ _ _); (with_unfolding_all refine' item_led ?k1ₓ ?k2ₓ ?k3ₓ ?k4ₓ ?k5ₓ ?k6ₓ ?k8ₓ ?_ ?k7ₓ; (case k8ₓ => first | exact (rfl : _ = 0) | exact (rfl : _ = 1) | exact (rfl : _ = 2) | exact (rfl : _ = 3) | exact (rfl : _ = 4) | (simp only [Int.toNat_natCast]; rfl) | rfl); (case k1ₓ => k_asm); (case k2ₓ => k_mem); (case k3ₓ => l_ints); (case k4ₓ => first | omega | (rw [fdiv_eq _ (show (0 : Int) < 2 by decide)]; omega)); (case k5ₓ => first | omega | (rw [fdiv_eq _ (show (0 : Int) < 2 by decide)]; omega)); (case k6ₓ => omega); (case k7ₓ => with_unfolding_all rfl); k_whole); intro _))
  k_with "my:subscriptTail Name BinOp ref int" => ((k_here; (with_reducible show wpAny _ _ (subscriptTail _ _ (Value.ref _) (Value.int _ _)) _ _ _); (with_unfolding_all refine' item_led ?k1ₓ ?k2ₓ ?k3ₓ ?k4ₓ ?k5ₓ ?k6ₓ ?k8ₓ ?_ ?k7ₓ; (case k8ₓ => first | exact (rfl : _ = 0) | exact (rfl : _ = 1) | exact (rfl : _ = 2) | exact (rfl : _ = 3) | exact (rfl : _ = 4) | (simp only [Int.toNat_natCast]; rfl) | rfl); (case k1ₓ => k_asm); (case k2ₓ => k_mem); (case k3ₓ => l_ints); (case k4ₓ => first | omega | (rw [fdiv_eq _ (show (0 : Int) < 2 by decide)]; omega)); (case k5ₓ => first | omega | (rw [fdiv_eq _ (show (0 : Int) < 2 by decide)]; omega)); (case k6ₓ => omega); (case k7ₓ => with_unfolding_all rfl); k_whole); intro _))
  k_with "my:subscriptTail Name Constant ref int" => ((k_here; (with_reducible show wpAny _ _ (subscriptTail _ _ (Value.ref _) (Value.int _ _)) _ _ _); (with_unfolding_all refine' item_led ?k1ₓ ?k2ₓ ?k3ₓ ?k4ₓ ?k5ₓ ?k6ₓ ?k8ₓ ?_ ?k7ₓ; (case k8ₓ => first | exact (rfl : _ = 0) | exact (rfl : _ = 1) | exact (rfl : _ = 2) | exact (rfl : _ = 3) | exact (rfl : _ = 4) | (simp only [Int.toNat_natCast]; rfl) | rfl); (case k1ₓ => k_asm); (case k2ₓ => k_mem); (case k3ₓ => l_ints); (case k4ₓ => first | omega | (rw [fdiv_eq _ (show (0 : Int) < 2 by decide)]; omega)); (case k5ₓ => first | omega | (rw [fdiv_eq _ (show (0 : Int) < 2 by decide)]; omega)); (case k6ₓ => omega); (case k7ₓ => with_unfolding_all rfl); k_whole); intro _))
  k_with "my:exec For Name Call cons nil" => ((k_here; (rename Fr _ _ _ _ => lFₓ); (rename News _ _ _ _ => lNₓ); with_unfolding_all ((refine' For_turns lFₓ ?_); k_whole; (refine MethodCall_ ?_); (refine ld lFₓ (by rfl) ?_); (refine getMethod_tab (knd := PySem.intKind _ _) (enc := PyData.int) PySem.F.slot_dict_values PySem.F.type_dict_values (by k_tabat) ?_); (refine callWith_method0 ?_); (refine call_values_tab (knd := PySem.intKind _ _) (enc := PyData.int) (by k_tabat) lFₓ lNₓ ?_); intro hₓ oₓ hvₓ Fₓ Nₓ; (replace Nₓ := kti_tail Nₓ); (refine kti_vals (knd := PySem.intKind _ _) (enc := PyData.int) (by rfl) Fₓ Nₓ hvₓ (by k_tabat) (by k_mem) rfl ?_)); clear lFₓ lNₓ; intro iₓ l1ₓ))
  k_with "my:ksw_same" => ((intro zₓ h2ₓ h3ₓ; (simp only [List.forall_mem_cons, List.not_mem_nil, false_implies, implies_true, and_true, ne_eq] at h2ₓ); (simp only [List.contains_cons, List.contains_nil, Bool.or_false, Bool.or_eq_false_iff, beq_eq_false_iff_ne, ne_eq] at h3ₓ); (simp [kstB, h2ₓ, h3ₓ]; done)))
  k_with "my:exec For Tuple Call cons nil" => ((k_here; (rename Fr _ _ _ _ => lFₓ); (rename News _ _ _ _ => lNₓ); with_unfolding_all ((refine' For_turns lFₓ ?_); k_whole; (refine MethodCall_ ?_); (refine ld lFₓ (by rfl) ?_); (refine getMethod_tab (knd := PySem.intKind _ _) (enc := PyData.int) PySem.F.slot_dict_items PySem.F.type_dict_items (by k_tabat) ?_); (refine callWith_method0 ?_); (refine call_items_tab (knd := PySem.intKind _ _) (enc := PyData.int) (by k_tabat) lFₓ lNₓ ?_); intro hₓ oₓ hvₓ Fₓ Nₓ; (replace Nₓ := kti_tail Nₓ); (refine kti_items (knd := PySem.intKind _ _) (enc := PyData.int) (by rfl) Fₓ Nₓ hvₓ (by k_tabat) (by k_mem) (fun _ _ h => Value.isInt_shape h) rfl ?_)); clear lFₓ lNₓ; intro iₓ l1ₓ))
  k_with "my:setItem ref int" => ((k_here; (with_reducible show wpAny _ _ (setItem (Value.ref _) (Value.int _ _) (Value.int _ _)) _ _ _); k_dflt (refine' kdf_setItem ?Fₓ ?Nₓ ?Uₓ ?dₓ ?fₓ ?cₓ ?_; (case Fₓ => k_asm); (case Nₓ => k_asm); (case Uₓ => k_updF); (case dₓ => assumption); (case fₓ => assumption); (case cₓ => omega)); intro hₓ oₓ kvsₓ Fₓ Nₓ hdₓ hfₓ; (try dsimp only at Nₓ)))
  k_with "my:getItem ref int" => ((k_here; (with_reducible show wpAny _ _ (getItem (Value.ref _) (Value.int _ _)) _ _ _); k_dflt (refine' getItem_tab PyProof.V.same_int (intKind_is _ _ _ _) ?k1ₓ (kdfD_item ?k2ₓ) ?_; (case k1ₓ => exact TabAt.ofNews (by k_asm) (by k_mem) (by assumption) (by assumption) (by assumption)); (case k2ₓ => assumption)); intro _ hvₓ; dict_open hvₓ))
  k_with "my:subscriptTail" => ((k_here; (with_reducible show wpAny _ _ (subscriptTail _ _ (Value.ref _) (Value.int _ _)) _ _ _); (with_unfolding_all refine' item_tup ?k1ₓ ?k2ₓ ?k3ₓ ?k4ₓ ?k5ₓ ?k6ₓ ?k8ₓ ?_ ?k7ₓ; (case k8ₓ => first | exact (rfl : _ = 0) | exact (rfl : _ = 1) | exact (rfl : _ = 2) | exact (rfl : _ = 3) | exact (rfl : _ = 4) | (simp only [Int.toNat_natCast]; rfl) | rfl); (case k1ₓ => k_asm); (case k2ₓ => k_mem); (case k3ₓ => l_ints); (case k4ₓ => omega); (case k5ₓ => omega); (case k6ₓ => omega); (case k7ₓ => with_unfolding_all rfl); k_whole); intro _))
  k_with "my:exec For Tuple Attribute cons nil" => ((k_here; (rename Fr _ _ _ _ => lFₓ); (with_unfolding_all refine' For_turns lFₓ ?_); k_whole))
  k_with "my:call ref" => ((k_here; (with_reducible show wpAny _ _ (call (Value.ref 32) [Value.ref _, Value.int _ _, Value.int 0 _, Value.none] _) _ _ _); k_dflt (refine' tel_i ?Bₓ ?Fₓ ?Xₓ ?Nₓ ?Tₓ ?hkₓ (br_tel _ _ _ _ _ _ _ _ _ _ _ _ ?p1ₓ ?p2ₓ ?p3ₓ) ?hdₓ ?huₓ ?_); (case Bₓ => k_asm); (case Fₓ => k_asm); (case Xₓ => k_asm); (case Nₓ => k_asm); (case Tₓ => k_asm); (case hkₓ => first | exact rfl | assumption); (case hdₓ => ktr_room); (case huₓ => ktr_units); (case p1ₓ => k_mem); (case p2ₓ => l_ints); (case p3ₓ => omega); intro t9ₓ h9ₓ tk9ₓ F9ₓ N9ₓ; (try dsimp only); (try k_fold)))
  k_with "my:call ref" => ((k_here; (with_reducible show wpAny _ _ (call (Value.ref 41) [Value.ref _, Value.int _ _, Value.int _ _, Value.int _ _] _) _ _ _); k_dflt (refine' tel_i2 ?Bₓ ?Fₓ ?Xₓ ?Nₓ ?Tₓ ?hkₓ (bl_tel2 _ _ _ _ _ _ _ _ _ _ _ _ _ _ _ ?p1ₓ ?p2ₓ ?p4ₓ ?p5ₓ ?p6ₓ ?p3ₓ) ?hdₓ ?huₓ ?_); (case Bₓ => k_asm); (case Fₓ => k_asm); (case Xₓ => k_asm); (case Nₓ => k_asm); (case Tₓ => k_asm); (case hkₓ => first | exact rfl | assumption); (case hdₓ => ktr_room); (case huₓ => ktr_units); (case p1ₓ => k_mem); (case p2ₓ => l_ints); (case p3ₓ => omega); (case p4ₓ => omega); (case p5ₓ => omega); (case p6ₓ => omega); intro t9ₓ h9ₓ tk9ₓ F9ₓ N9ₓ lo9ₓ hi9ₓ; (try dsimp only); (try k_fold)))
  k_with "my:call ref" => ((k_here; (with_reducible show wpAny _ _ (call (Value.ref 76) [Value.ref _, Value.ref _] _) _ _ _); k_dflt (first | (refine' tel_d ?Bₓ ?Fₓ ?Xₓ ?Nₓ ?Tₓ ?hkₓ (addc_tel _ _ _ _ _ _ _ _ _ [] [(_, _)] _ _ ?p1ₓ ?p2ₓ ?p3ₓ ?p4ₓ ?p5ₓ ?p6ₓ ?p7ₓ ?p8ₓ ?p9ₓ ?p10ₓ) ?hdₓ ?huₓ ?_; (case Bₓ => k_asm); (case Fₓ => k_asm); (case Xₓ => k_asm); (case Nₓ => k_asm); (case Tₓ => k_asm); (case hkₓ => first | exact rfl | assumption); (case hdₓ => ktr_room); (case huₓ => ktr_units); (case p1ₓ => k_mem); (case p2ₓ => assumption); (case p3ₓ => with_unfolding_all assumption); (case p6ₓ => k_mem); (case p7ₓ => assumption); (case p8ₓ => with_unfolding_all assumption); (case p4ₓ => first | exact Nat.le_of_ble_eq_true rfl | assumption | exact addC_room1 | exact addC_room2 | exact addC_room3); (case p5ₓ => assumption); (case p9ₓ => exact Nat.le_of_ble_eq_true rfl); (case p10ₓ => assumption)) | (refine' tel_d ?Bₓ ?Fₓ ?Xₓ ?Nₓ ?Tₓ ?hkₓ (addc_tel _ _ _ _ _ _ _ _ _ _ [(_, _)] _ _ ?p1ₓ ?p2ₓ ?p3ₓ ?p4ₓ ?p5ₓ ?p6ₓ ?p7ₓ ?p8ₓ ?p9ₓ ?p10ₓ) ?hdₓ ?huₓ ?_; (case Bₓ => k_asm); (case Fₓ => k_asm); (case Xₓ => k_asm); (case Nₓ => k_asm); (case Tₓ => k_asm); (case hkₓ => first | exact rfl | assumption); (case hdₓ => ktr_room); (case huₓ => ktr_units); (case p1ₓ => k_mem); (case p2ₓ => assumption); (case p3ₓ => with_unfolding_all assumption); (case p6ₓ => k_mem); (case p7ₓ => assumption); (case p8ₓ => with_unfolding_all assumption); (case p4ₓ => first | exact Nat.le_of_ble_eq_true rfl | assumption | exact addC_room1 | exact addC_room2 | exact addC_room3); (case p5ₓ => assumption); (case p9ₓ => exact Nat.le_of_ble_eq_true rfl); (case p10ₓ => assumption))); intro l9ₓ o9ₓ h9ₓ tk9ₓ F9ₓ N9ₓ lo9ₓ l1ₓ kv9ₓ hd9ₓ hf9ₓ; (try k_lt l1ₓ); (try dsimp only); (try k_fold)))
  k_with "my:eval Dict" => ((k_here; k_dflt (refine' kdn_eval (knd := PySem.intKind _ _) ?Fₓ ?Nₓ ?bₓ ?aₓ ?lₓ ?eₓ ?nₓ ?_; (case Fₓ => k_asm); (case Nₓ => k_asm); (case bₓ => exact Top.nolimit (by k_asm)); (case aₓ => rfl); (case lₓ => rfl); (case eₓ => exact List.cons_ne_nil _ _); (case nₓ => exact Nat.le_of_ble_eq_true rfl)); intro dₓ hₓ oₓ Fₓ Nₓ l1ₓ loₓ hdₓ; (try k_lt l1ₓ)))
  k_with "my:k_all" => (with_reducible first | exact kst_ltOf (by assumption) | exact kst_ltOf (And.right (by assumption)) | exact kst_ltOf (And.right (And.right (by assumption))) | exact kst_ltOf (And.right (And.right (And.right (by assumption)))) | exact kst_ltOf (And.right (And.right (And.right (And.right (by assumption))))) | exact kst_ltOf (And.right (And.right (And.right (And.right (And.right (by assumption)))))) | exact kst_ltOf (And.right (And.right (And.right (And.right (And.right (And.right (by assumption))))))) | exact kst_ltOf (And.right (And.right (And.right (And.right (And.right (And.right (And.right (by assumption)))))))) | exact kst_ltOf (And.right (And.right (And.right (And.right (And.right (And.right (And.right (And.right (by assumption))))))))))
  k_with "my:k_all" => (with_reducible first | exact allNe_of (kst_ltOf (by assumption)) | exact allNe_of (kst_ltOf (And.right (by assumption))) | exact allNe_of (kst_ltOf (And.right (And.right (by assumption)))) | exact allNe_of (kst_ltOf (And.right (And.right (And.right (by assumption))))) | exact allNe_of (kst_ltOf (And.right (And.right (And.right (And.right (by assumption)))))) | exact allNe_of (kst_ltOf (And.right (And.right (And.right (And.right (And.right (by assumption))))))) | exact allNe_of (kst_ltOf (And.right (And.right (And.right (And.right (And.right (And.right (by assumption)))))))) | exact allNe_of (kst_ltOf (And.right (And.right (And.right (And.right (And.right (And.right (And.right (by assumption))))))))) | exact allNe_of (kst_ltOf (And.right (And.right (And.right (And.right (And.right (And.right (And.right (And.right (by assumption)))))))))))
  k_with "my:call ref" => ((k_here; (with_reducible show wpAny _ _ (call (Value.ref 83) [Value.ref _] _) _ _ _); k_dflt (refine' tel_i ?Bₓ ?Fₓ ?Xₓ ?Nₓ ?Tₓ ?hkₓ (cc_tel _ _ _ _ _ _ _ _ _ ?p1ₓ ?p2ₓ ?p3ₓ ?p4ₓ ?p5ₓ) ?hdₓ ?huₓ ?_); (case Bₓ => k_asm); (case Fₓ => k_asm); (case Xₓ => k_asm); (case Nₓ => k_asm); (case Tₓ => k_asm); (case hkₓ => first | exact rfl | assumption); (case hdₓ => ktr_room); (case huₓ => ktr_units); (case p1ₓ => k_mem); (case p2ₓ => assumption); (case p3ₓ => with_unfolding_all assumption); (case p4ₓ => first | exact Nat.le_of_ble_eq_true rfl | assumption | exact addC_room1 | exact addC_room2 | exact addC_room3); (case p5ₓ => assumption); intro t9ₓ h9ₓ tk9ₓ F9ₓ N9ₓ; (try dsimp only); (try k_fold)))
  trivial
/-! G1 -/
/-- an index as it lies in the ledger -/
inductive IdxAt (news : Led) (ix : Addr) (laid begins ranks : List Int) : Prop
  | mk (la bg rk : Addr) (n1 n2 n3 n4 : Nat) (v1 v2 v3 : List Value) (x0 : (ix, tupO [.ref la, .ref bg, .ref rk] n1) ∈ news) (x1 : (la, PySem.W.listOf v1.toArray n2) ∈ news) (x2 : IntsAre v1 laid) (x3 : (bg, PySem.W.listOf v2.toArray n3) ∈ news) (x4 : IntsAre v2 begins) (x5 : (rk, PySem.W.listOf v3.toArray n4) ∈ news) (x6 : IntsAre v3 ranks)

def grA (laid begins : List Int) (low : Int) (c : Nat) : Int := bl laid low (begins.getD c 0) (begins.getD (c + 1) 0)
def grB (laid begins : List Int) (low width : Int) (c : Nat) : Int := bl laid (low + width) (grA laid begins low c) (begins.getD (c + 1) 0)
def grW (laid begins : List Int) (low width : Int) (c : Nat) : Int := grB laid begins low width c - grA laid begins low c
def grSum (laid begins : List Int) (low width : Int) : Nat → Int
  | 0 => 0
  | c + 1 => grSum laid begins low width c + grW laid begins low width c

theorem tup3_ret {L : Addr} {m : Str → Option Value} {s : Shared} {Q : Value → Shared → Prop} {h₀ h : Heap} {news rest : Led} {a x b A X B : Int} {u1 u2 u3 : Tok} {D : Addr} {tk : Nat}
    (ret : ∀ r news' h' tk', Fr h₀ L h' m → News h₀ L h' news' → (∃ l n u1 u2 u3, r = .ref l ∧ news' = (l, tupO [.int A u1, .int X u2, .int B u3] n) :: news ∧ ∀ p ∈ news, p.1 < l) → Q r { s with heap := h', toks := tk' })
    (F : Fr h₀ L h m) (N : News h₀ L h ((D, ({ cls := .type "tuple", data := .seq #[.int a u1, .int x u2, .int b u3] 0 } : Obj)) :: rest)) (hs : ∀ p ∈ news, p ∈ rest) (hl : ∀ p ∈ news, p.1 < D) (ha : a = A) (hx : x = X) (hb : b = B) :
    Q (.ref D) { s with heap := h, toks := tk } := by
  subst ha hx hb
  refine ret _ ((D, tupO [.int a u1, .int x u2, .int b u3] 0) :: news) _ _ F (fun p hp => ?_) ⟨D, 0, u1, u2, u3, rfl, rfl, hl⟩
  rcases List.mem_cons.mp hp with rfl | hp
  · exact N _ (.head _)
  · exact N p (.tail _ (hs p hp))
theorem words_G11 : True := by
  k_with "my:pyIter ref" => (((with_reducible show wpAny _ _ (pyIter (Value.ref _)) (fun it s₂ => LoopAtV _ _ _ _ _ _ _ _ _ it s₂) _ _); (rename Fr _ _ _ _ => lFₓ); (rename News _ _ _ _ => lNₓ); (rename IsRange _ _ _ _ _ _ _ _ => lRₓ); (with_unfolding_all refine iter_rangeUnr (by rfl) lRₓ (small_nat (by omega)) (size_nat _) lFₓ lNₓ ?_); clear lFₓ lNₓ; intro iₓ l1ₓ; (try k_lt l1ₓ)))
  trivial
set_option maxHeartbeats 8000000 in
theorem grown_tel (w : World) (mean : ExcName → Option Value) (mg mb : Str → Option Value) (news : Led) (ix : Addr) (laid begins ranks : List Int) (low other width : Int) (c : Nat) (t1 t2 t3 t4 : Tok)
    (hix : IdxAt news ix laid begins ranks) (hl : laid.length = 7) (hb : begins.length = 5) (hm : ∀ i, i < 4 → 0 ≤ begins.getD i 0 ∧ begins.getD i 0 ≤ begins.getD (i + 1) 0 ∧ begins.getD (i + 1) 0 ≤ 7) (hc : c < 4) :
    Tel w mean mg mb 2 16 107 [.ref ix, .int low t1, .int other t2, .int width t3, .int (c : Nat) t4] [] news (fun r news' => ∃ l n u1 u2 u3, r = .ref l ∧
      news' = (l, tupO [.int (grA laid begins low c) u1, .int (other + grSum laid begins low width c) u2, .int (grW laid begins low width c) u3] n) :: news ∧ ∀ p ∈ news, p.1 < l) := by
  w_top off
  unfold Tel
  k_fill
  intro dp un gd cn cs a ccd cl outer A₀ base h₀ L m s Q E B F X N T hk hdd hu hret
  obtain ⟨la, bg, rk, n1, n2, n3, n4, v1, v2, v3, h1, h2, i1, h3, i2, h4, i3⟩ := hix
  have hmc : 0 ≤ begins.getD c 0 ∧ begins.getD c 0 ≤ begins.getD ((c : Int) + 1).toNat 0 ∧ begins.getD ((c : Int) + 1).toNat 0 ≤ 7 := hm c hc
  refine wpAny_call ?_
  k_dflt cell_enter
  refine wpAny_noRaise ?_
  refine wp_abs fun Q0 hQ0 => ?_
  k_steps
  refine range_st (σ := Addr × Obj × List (Int × Int)) (fun q => (q.1, q.2.1) :: news) (fun q => [(Str.ofString "lesser", .ref q.1)]) [Str.ofString "less", Str.ofString "ahead", Str.ofString "behind"]
    (fun i q => DictIs w q.2.1 q.2.2 ∧ (q.2.2.map (·.1)).Nodup ∧ q.2.2.length ≤ i ∧ (q.2.2.map (·.2)).sum = grSum laid begins low width i ∧ (q.1 == sysModules) = false ∧ (∀ p ∈ news, p.1 < q.1)) (_, _, []) (fun p hp => .tail _ hp) (by kst_all) ⟨⟨_, by assumption, by assumption⟩, List.nodup_nil, Nat.le_refl _, rfl, by assumption, by first | assumption | k_all⟩ ?_ ?_
  · rintro i ⟨d1, o1, c1⟩ u t h tk hi hx97 F1 N1
    refine goal_abs fun hG9 => ?_
    obtain ⟨⟨kv1, hd1, hf1⟩, hn1, hl1, hs1, hlo1, hlt1⟩ := hx97
    dsimp only at hd1 hf1 hn1 hl1 hs1 hlo1 hlt1 N1
    have hmi : 0 ≤ begins.getD i 0 ∧ begins.getD i 0 ≤ begins.getD ((i : Int) + 1).toNat 0 ∧ begins.getD ((i : Int) + 1).toNat 0 ≤ 7 := hm i (by omega)
    have hl2 : c1.length ≤ 100 := by omega
    refine hG9 ?_
    clear hG9
    refine wp_abs fun Q9 hQ9 => ?_
    k_steps
    subst hQ9
    refine' range_end (l9ₓ, o9ₓ, addC c1 [((i : Nat), grW laid begins low width i)]) (by assumption) (by assumption) (.tail _ (.tail _ (.head _))) ?hs ?ho ?hr ?hkk ?hz
    case hkk => kst_all
    case hz => ksw_same
    case hs => exact List.forall_mem_cons.mpr ⟨.head _, fun p hp => .tail _ (.tail _ (.tail _ (.tail _ hp)))⟩
    case ho => exact List.forall_mem_cons.mpr ⟨by dsimp only; k_ne, by k_all⟩
    case hr => exact ⟨⟨_, by assumption, by assumption⟩, addC_nodup hn1 _, Nat.le_trans (addC_len _ _) (Nat.add_le_add_right hl1 1), by rw [addC_sum hn1, hs1]; simp only [grSum], by assumption, by dsimp only; exact kst_ltOf l1ₓ.2.2.2⟩
  · rintro ⟨d1, o1, c1⟩ u h tk hx94 F1 N1
    refine goal_abs fun hG9 => ?_
    obtain ⟨⟨kv1, hd1, hf1⟩, hn1, hl1, hs1, hlo1, hlt1⟩ := hx94
    dsimp only at hd1 hf1 hn1 hl1 hs1 hlo1 hlt1 N1
    have hl2 : c1.length ≤ 100 := by omega
    subst hQ0
    refine hG9 ?_
    clear hG9
    k_steps
    exact tup3_ret hret (by assumption) (by assumption) (fun p hp => by k_mem) (by k_all) (by simp only [grA]; rfl) (by rw [hs1]) (by simp only [grA, grB, grW]; rfl)
/-! X1 -/
theorem IdxAt.more {news : Led} {ix : Addr} {l b r : List Int} (h : IdxAt news ix l b r) (x : Addr × Obj) : IdxAt (x :: news) ix l b r := by
  obtain ⟨la, bg, rk, n1, n2, n3, n4, v1, v2, v3, h1, h2, i1, h3, i2, h4, i3⟩ := h
  exact ⟨la, bg, rk, n1, n2, n3, n4, v1, v2, v3, .tail _ h1, .tail _ h2, i1, .tail _ h3, i2, .tail _ h4, i3⟩
/-- what a list of begins keeps -/
def Begs (b : List Int) : Prop := ∀ i, i < 4 → 0 ≤ b.getD i 0 ∧ b.getD i 0 ≤ b.getD (i + 1) 0 ∧ b.getD (i + 1) 0 ≤ 7
theorem tel_t {w : World} {mean : ExcName → Option Value} {mg mb : Str → Option Value} {D U : Nat} {f : Addr} {vs : List Value} {kw : List (Str × Value)} {news : Led}
    {dp un : Nat} {gd : Option (List Code)} {cn : Str} {cs : Scope} {a : Addr} {ccd : Value} {cl : List (Str × Addr)} {outer : List Env} {A₀ : Around} {base h₀ : Heap} {L : Addr} {m : Str → Option Value} {s : Shared} {Q E : Value → Shared → Prop} {e1 e2 e3 : Int}
    (B : Below A₀ base outer h₀) (F : Fr h₀ L s.heap m) (X : (Mine.hd.heap_1 w.params).In h₀) (N : News h₀ L s.heap news) (T : Top Mine.hd.view_1 [Str.ofString "insort_right", Str.ofString "bisect_right", Str.ofString "bisect_left"] mean mg mb h₀) (hk : cs.kind = .function)
    (C : Tel w mean mg mb D U f vs kw news (fun r n' => ∃ l n u1 u2 u3, r = .ref l ∧ n' = (l, tupO [.int e1 u1, .int e2 u2, .int e3 u3] n) :: news ∧ ∀ p ∈ news, p.1 < l)) (hd : dp + D < recursionLimit) (hu : un + U < cLine)
    (ret : ∀ l n u1 u2 u3 h' tk', Fr h₀ L h' m → News h₀ L h' ((l, tupO [.int e1 u1, .int e2 u2, .int e3 u3] n) :: news) → (∀ p ∈ news, p.1 < l) → Q (.ref l) { s with heap := h', toks := tk' }) :
    wpAny (model PySem.Challenge.rw_wf0032_01.row.prog w) (ktrTop dp un gd cn cs L a ccd cl outer) (call (.ref f) vs kw) Q E s :=
  tel_use B F X N T hk C hd hu fun r n h' tk' F' N' hp => by
    obtain ⟨l, n, u1, u2, u3, rfl, rfl, h1⟩ := hp
    exact ret l n u1 u2 u3 h' tk' F' N' h1
theorem words_X11 : True := by
  k_with "my:call ref" => ((k_here; (with_reducible show wpAny _ _ (call (Value.ref 107) [Value.ref _, Value.int _ _, Value.int _ _, Value.int _ _, Value.int _ _] _) _ _ _); k_dflt (refine' tel_t ?Bₓ ?Fₓ ?Xₓ ?Nₓ ?Tₓ ?hkₓ (grown_tel _ _ _ _ _ _ _ _ _ _ _ _ _ _ _ _ _ ?p1ₓ ?p2ₓ ?p3ₓ ?p4ₓ ?p5ₓ) ?hdₓ ?huₓ ?_); (case Bₓ => k_asm); (case Fₓ => k_asm); (case Xₓ => k_asm); (case Nₓ => k_asm); (case Tₓ => k_asm); (case hkₓ => first | exact rfl | assumption); (case hdₓ => ktr_room); (case huₓ => ktr_units); (case p1ₓ => first | assumption | exact IdxAt.more (by assumption) _ | exact IdxAt.more (IdxAt.more (by assumption) _) _ | exact IdxAt.more (IdxAt.more (IdxAt.more (by assumption) _) _) _); (case p2ₓ => assumption); (case p3ₓ => assumption); (case p4ₓ => assumption); (case p5ₓ => omega); intro l9ₓ m9ₓ u9ₓ v9ₓ w9ₓ h9ₓ tk9ₓ F9ₓ N9ₓ l1ₓ; (try k_lt l1ₓ); (try dsimp only); (try k_fold)))
  trivial

def exA (l0 b0 l1 b1 : List Int) (low other width : Int) (c : Nat) : Bool → Int
  | true => grA l0 b0 low c
  | false => low + grSum l1 b1 other width c
def exX (l0 b0 l1 b1 : List Int) (low other width : Int) (c : Nat) : Bool → Int
  | true => other + grSum l0 b0 low width c
  | false => grA l1 b1 other c
def exW (l0 b0 l1 b1 : List Int) (low other width : Int) (c : Nat) : Bool → Int
  | true => grW l0 b0 low width c
  | false => grW l1 b1 other width c

set_option maxHeartbeats 8000000 in
theorem ext_tel (w : World) (mean : ExcName → Option Value) (mg mb : Str → Option Value) (news : Led) (ixs st ix0 ix1 : Addr) (n0 n1 : Nat) (l0 b0 r0 l1 b1 r1 : List Int) (low other width : Int) (c : Nat) (left : Bool) (t1 t2 t3 t4 : Tok)
    (hix : (ixs, tupO [.ref ix0, .ref ix1] n0) ∈ news) (hst : (st, tupO [.int low t1, .int other t2, .int width t3] n1) ∈ news) (h0 : IdxAt news ix0 l0 b0 r0) (h1 : IdxAt news ix1 l1 b1 r1)
    (hl0 : l0.length = 7) (hl1 : l1.length = 7) (hb0 : b0.length = 5) (hb1 : b1.length = 5) (hm0 : Begs b0) (hm1 : Begs b1) (hc : c < 4) :
    Tel w mean mg mb 3 24 114 [.ref ixs, .ref st, .int (c : Nat) t4, .bool left] [] news (fun r news' => ∃ l n u1 u2 u3, r = .ref l ∧
      news' = (l, tupO [.int (exA l0 b0 l1 b1 low other width c left) u1, .int (exX l0 b0 l1 b1 low other width c left) u2, .int (exW l0 b0 l1 b1 low other width c left) u3] n) :: news ∧ ∀ p ∈ news, p.1 < l) := by
  w_top off
  unfold Tel
  k_fill
  intro dp un gd cn cs a ccd cl outer A₀ base h₀ L m s Q E B F X N T hk hdd hu hret
  unfold Begs at hm0 hm1
  refine wpAny_call ?_
  k_dflt cell_enter
  refine wpAny_noRaise ?_
  cases left
  · k_steps
    exact tup3_ret hret (by assumption) (by assumption) (fun p hp => by k_mem) (by k_all) rfl rfl rfl
  · k_steps
    exact hret _ _ _ _ (by assumption) (by assumption) ⟨_, _, _, _, _, rfl, rfl, by first | assumption | k_all⟩
open PyProof.Rows.LCg
/-! K4 -/
section
variable {prog : Program} {w : World} {A : Around} {E : Value → Shared → Prop} {s : Shared} {h₀ : Heap} {L : Addr} {m : Str → Option Value} {env : Env}
/-- a clause's tests: none, or one -/
def Tst (prog : Program) (w : World) (A : Around) (ifs : List Expr) (env : Env) (Q : Bool → Shared → Prop) (E : Value → Shared → Prop) (s : Shared) : Prop :=
  match ifs with
  | [] => Q true s
  | [ct] => wpAny (model prog w) A (isTrue ct env (eval ct env)) Q E s
  | _ => False
theorem tst_run {ifs : List Expr} {Q : Bool → Shared → Prop} (h : Tst prog w A ifs env Q E s) :
    wpAny (model prog w) A (forIn ifs true fun c r => if r = true then do let ok ← isTrue c env (eval c env); pure (ForInStep.yield ok) else pure (ForInStep.yield r)) Q E s := by
  match ifs, h with
  | [], h => exact wpAny_tests_nil h
  | [_], h => exact wpAny_tests_one h
theorem tst_mono {ifs : List Expr} {Q Q' : Bool → Shared → Prop} (h : Tst prog w A ifs env Q E s) (hq : ∀ b s, Q b s → Q' b s) : Tst prog w A ifs env Q' E s := by
  match ifs, h with
  | [], h => exact hq _ _ h
  | [_], h => exact wpAny_mono h hq fun _ _ e => e
/-- the loop of a list comprehension of one clause -/
theorem compLoop2 {target elt iter : Expr} {ifs : List Expr} {scope : Scope} {pos : Pos} {it acc : Value} {env : Env} {R : Result → Shared → Prop} (I : Nat → Shared → Prop)
    (turn : ∀ n s, I n s → wpAny (model prog w) A (pyNext it) (fun r s₁ => match r with
      | none => R (.ok .next) s₁
      | some v => wpAny (model prog w) A (letOwnedTupleGo target it v) (fun _ s₁' => wpAny (model prog w) A (assign target env v) (fun _ s₂ =>
          Tst prog w A ifs env (fun ok s₃ => if ok = true then wpAny (model prog w) A (eval elt env) (fun x s₄ =>
              wpAny (model prog w) A (call (.builtin "list.append") [acc, x]) (fun _ s₅ => ∃ m, m < n ∧ I m s₅) (notedBy (model prog w) A env fun e s' => R (.error e) s') s₄) (notedBy (model prog w) A env fun e s' => R (.error e) s') s₃
            else ∃ m, m < n ∧ I m s₃) (notedBy (model prog w) A env fun e s' => R (.error e) s') s₂)
          (notedBy (model prog w) A env fun e s' => R (.error e) s') s₁') (notedBy (model prog w) A env fun e s' => R (.error e) s') s₁) (notedBy (model prog w) A env fun e s' => R (.error e) s') s)
    (n : Nat) (h : I n s) : codeAny (model prog w) A (.compLoop (.ListComp elt [⟨target, iter, ifs, 0⟩] scope pos) 0 it acc env) R s := by
  refine codeAny_loop rfl I (fun n s hI => ?_) n h
  show wpAny _ A ((compTurn (.ListComp elt [⟨target, iter, ifs, 0⟩] scope pos) 0 it acc env).onRaise (fun x => do noteFrame x env; theTreesLotGoes x)) _ _ s
  refine wpAny_noted ?_
  rw [compTurn_list]
  refine wpAny_bind (wpAny_standAt (wpAny_bind (wpAny_mono (turn n s hI) (fun r s₁ h₁ => ?_) fun _ _ h' => h')))
  cases r with
  | none => exact wpAny_pure h₁
  | some v =>
    refine wpAny_bind (wpAny_mono h₁ (fun _ s₁' h₁' => ?_) fun _ _ h' => h')
    refine wpAny_bind (wpAny_mono h₁' (fun _ s₂ h₂ => wpAny_bind (wpAny_mono (tst_run h₂) (fun ok s₃ h₃ => ?_) fun _ _ h' => h')) fun _ _ h' => h')
    cases ok with
    | false => exact wpAny_pure ⟨rfl, h₃⟩
    | true =>
      exact wpAny_bind (wpAny_bind (wpAny_mono h₃ (fun x s₄ h₄ => wpAny_bind (wpAny_mono h₄ (fun _ s₅ h₅ => wpAny_pure (wpAny_pure ⟨rfl, h₅⟩)) fun _ _ h' => h')) fun _ _ h' => h'))

theorem tst_abs {prog : Program} {w : World} {A : Around} {ifs : List Expr} {env : Env} {t : Sem Value} {P1 : Value → Shared → Prop} {P2 : Shared → Prop} {E : Value → Shared → Prop} {s : Shared}
    (h : ∀ (P1' : Value → Shared → Prop) (P2' : Shared → Prop), P1' = P1 → P2' = P2 → Tst prog w A ifs env (fun ok s' => if ok = true then wpAny (model prog w) A t P1' E s' else P2' s') E s) :
    Tst prog w A ifs env (fun ok s' => if ok = true then wpAny (model prog w) A t P1 E s' else P2 s') E s := h P1 P2 rfl rfl
/-- the objects of a comprehension's own, under their addresses oa -/
def OwnAt (h : Heap) (oa : List Addr) (own : Led) : Prop := own.map (·.1) = oa ∧ ∀ p ∈ own, h.get? p.1 = some p.2
/-- the ledger stands apart -/
def Apart (l : Led) (ws : List Addr) (D : Addr) (oa : List Addr) : Prop := ∀ p ∈ l, p.1 ∉ ws ∧ p.1 ≠ D ∧ p.1 ∉ oa
/-- what a turn leaves -/
def CEnd2 {σ : Type} (h₀ : Heap) (L : Addr) (m : Str → Option Value) (s₂ : Shared) (its own : Led) (ws : List Addr) (D : Addr) (oa : List Addr) (ys : List Value) (Ld : σ → Led) (P : σ → Prop) (s' : Shared) : Prop :=
  ∃ h' tk' c all, s' = { s₂ with heap := h', toks := tk' } ∧ Fr h₀ L h' m ∧ News h₀ L h' all ∧ (∀ p ∈ its, p ∈ all) ∧ (∀ p ∈ own, p ∈ all) ∧ (D, lst ys) ∈ all ∧ (∀ p ∈ Ld c, p ∈ all) ∧ Apart (Ld c) ws D oa ∧ P c

/-- a turn of a comprehension -/
def CTurn2 {σ : Type} (prog : Program) (w : World) (A : Around) (h₀ : Heap) (L : Addr) (m : Str → Option Value) (env : Env) (ifs : List Expr) (elt : Expr) (scope : Scope) (cl : List (Str × Addr)) (s₂ : Shared) (ws : List (Addr × String)) (n : Nat) (oaf : Addr → List Addr)
    (Ld : σ → Led) (Done : Nat → σ → List Value → Prop) (Bd : Nat → Addr → Led → Prop) : Prop :=
  ∀ i c ys C D own h tk (E' : Value → Shared → Prop), i < n → Done i c ys → Bd i C own → own.map (·.1) = oaf C → Fr h₀ L h m → Apart (Ld c) (ws.map (·.1)) D (oaf C) → (∀ b ∈ ws.map (·.1), (@LT.lt Nat _ b D) ∧ b ∉ oaf C) → D ∉ oaf C → (@LT.lt Nat _ D C) →
      AllObj ws (fun its => News h₀ L h (its ++ (own ++ (D, lst ys) :: Ld c)) →
        Tst prog w A ifs (compEnvC scope (cellsFrom (C + 1) scope.names cl) C env) (fun ok s' => if ok = true then
          wpAny (model prog w) A (eval elt (compEnvC scope (cellsFrom (C + 1) scope.names cl) C env)) (fun y s'' => CEnd2 h₀ L m s₂ its own (ws.map (·.1)) D (oaf C) ys Ld (fun c' => Done (i + 1) c' (ys ++ [y])) s'') E' s'
          else CEnd2 h₀ L m s₂ its own (ws.map (·.1)) D (oaf C) ys Ld (fun c' => Done (i + 1) c' ys) s') E' { s₂ with heap := h, toks := tk })

/-- what holds between the turns -/
inductive CLoop {σ : Type} (h₀ : Heap) (L : Addr) (m : Str → Option Value) (s₂ : Shared) (n : Nat) (St : Nat → Heap → Prop) (oa : List Addr) (Ow : Led → Prop) (Ld : σ → Led) (ws : List Addr) (D : Addr) (Done : Nat → σ → List Value → Prop) (k : Nat) (s' : Shared) : Prop
  | mk (h' : Heap) (tk i : Nat) (ys : List Value) (own : Led) (c : σ) (x0 : s' = { s₂ with heap := h', toks := tk }) (x1 : i ≤ n) (x2 : k = n + 1 - i) (x3 : ys.length ≤ i) (x4 : St i h') (x5 : Fr h₀ L h' m) (x6 : OwnAt h' oa own) (x7 : Ow own) (x8 : News h₀ L h' ((D, lst ys) :: Ld c)) (x9 : Apart (Ld c) ws D oa) (x10 : Done i c ys)
theorem comp_block2 {target elt iter : Expr} {ifs : List Expr} {scope : Scope} {cl : List (Str × Addr)} {pos : Pos} {s₂ : Shared} {I : Addr} {fp wr : List Addr} {n : Nat} {P Md : Nat → Value → Heap → Prop} {St : Nat → Heap → Prop} {ws : List (Addr × String)} {σ : Type} {oaf : Addr → List Addr}
    {Ld : σ → Led} {keep : Led} {c₀ : σ} {Done : Nat → σ → List Value → Prop} {Ow : Addr → Led → Prop} {Bd : Nat → Addr → Led → Prop} {RR : Value → Addr → Result → Shared → Prop}
    (W : KTurns prog w A target I fp wr n P Md St) (hself : ∀ (s : Shared) (Q : Value → Shared → Prop) (E : Value → Shared → Prop), St 0 s.heap → Q (.ref I) s → wpAny (model prog w) A (pyIter (.ref I)) Q E s) (hsz : n ≤ sizeLine)
    (hobj : ∀ i h, St i h → ∃ its, Objs ws its ∧ ∀ p ∈ its, h.get? p.1 = some p.2) (hws : ∀ b ∈ ws.map (·.1), b ∈ fp ∧ h₀.get? b = none ∧ b ≠ L) (hwr : ∀ b ∈ wr, b ∈ ws.map (·.1))
    (hfk : ∀ b ∈ fp, b ∈ ws.map (·.1) ∨ (∃ o, (b, o) ∈ keep) ∨ ∃ o, h₀.get? b = some o) (hkp : ∀ i c ys, Done i c ys → ∀ p ∈ keep, p ∈ Ld c) (hnw : ∀ p ∈ Ld c₀, p.1 ∉ ws.map (·.1))
    (hown : ∀ (s₁ : Shared), OwnAt (pushCells (s₁.heap.push { cls := .type "dict", data := .dict #[] }) scope.names) (oaf s₁.heap.objs.size) ((oaf s₁.heap.objs.size).filterMap fun a => ((pushCells (s₁.heap.push { cls := .type "dict", data := .dict #[] }) scope.names).get? a).map (a, ·)) ∧
      Ow s₁.heap.objs.size ((oaf s₁.heap.objs.size).filterMap fun a => ((pushCells (s₁.heap.push { cls := .type "dict", data := .dict #[] }) scope.names).get? a).map (a, ·)))
    (hoa : ∀ C, ∀ a ∈ oaf C, @LE.le Nat _ C a) (hCo : ∀ C own, own.map (·.1) = oaf C → Ow C own → ∃ o m', (C, o) ∈ own ∧ NsObj o m') (hst : St 0 s₂.heap) (hfp : ∀ b ∈ fp, b < s₂.heap.objs.size)
    (F : Fr h₀ L s₂.heap m) (N : News h₀ L s₂.heap (Ld c₀))
    (hasg : ∀ i v h tk C own (Q : Unit → Shared → Prop) (E' : Value → Shared → Prop), i < n → P i v h → OwnAt h (oaf C) own → Ow C own → (∀ h' tk' own', (∀ b o, b ∉ oaf C → h.get? b = some o → h'.get? b = some o) → OwnAt h' (oaf C) own' → Ow C own' → Bd i C own' → Q () { s₂ with heap := h', toks := tk' }) →
      wpAny (model prog w) A (assign target (compEnvC scope (cellsFrom (C + 1) scope.names cl) C env) v) Q E' { s₂ with heap := h, toks := tk })
    (h0 : Done 0 c₀ [])
    (turn : CTurn2 prog w A h₀ L m env ifs elt scope cl s₂ ws n oaf Ld Done Bd)
    (hRR : ∀ D C h tk m' c ys, Fr h₀ L h m → News h₀ L h ((D, lst ys) :: Ld c) → (∀ p ∈ Ld c, p.1 ≠ D) → h.Ns C m' → h₀.get? C = none → h₀.get? D = none → C ≠ L → D ≠ L → C ≠ D → (∀ p ∈ Ld c, p.1 ≠ C) → (∀ p ∈ Ld c₀, p.1 < D) → Done n c ys → RR (.ref D) C (.ok .next) { s₂ with heap := h, toks := tk }) :
    wpAny (model prog w) A (newList []) (fun acc s₃ => wpAny (model prog w) A (newFunctionEnv scope env.globals cl [] env.qual none .none (some env)) (fun cenv s₄ =>
      codeAny (model prog w) A (.compStart (.ListComp elt [⟨target, iter, ifs, 0⟩] scope pos) 0 (.ref I) acc { cenv with scope := relabel scope env }) (RR acc cenv.locals) s₄) E s₃) E s₂ := by
  refine wpAny_newObj_type ?_
  unfold newFunctionEnv
  simp only [Option.isSome_some, if_true]
  refine wpAny_bind (wpAny_alloc ?_)
  refine wpAny_bind (wpAny_layCells _ (fun name kind cells => by cases hkc : kind == NameKind.cell <;> simp [hkc]) _ _ _ _ ?_)
  simp only [List.forIn_nil, pure_bind]
  refine wpAny_pure ?_
  dsimp only
  generalize hH2 : s₂.heap.push { cls := .type "list", dict := none, data := .seq ([] : List Value).toArray } = H2
  have hO := hown { s₂ with heap := H2 }
  dsimp only at hO
  generalize hown0 : ((oaf H2.objs.size).filterMap fun a => ((pushCells (H2.push { cls := .type "dict", data := .dict #[] }) scope.names).get? a).map (a, ·)) = own0 at hO
  generalize hH1 : pushCells (H2.push { cls := .type "dict", data := .dict #[] }) scope.names = h₁ at hO hown0 ⊢
  have hC : H2.objs.size = s₂.heap.objs.size + 1 := by rw [← hH2, Heap.size_push]
  have e1 : (H2.push { cls := .type "dict", data := .dict #[] }).objs.size = H2.objs.size + 1 := Heap.size_push _ _
  rw [e1]
  have hoaC := hoa H2.objs.size
  have hDC : s₂.heap.objs.size ≠ H2.objs.size := by rw [hC]; exact Nat.ne_of_lt (Nat.lt_succ_self _)
  have below : ∀ b, b < s₂.heap.objs.size → b ∉ oaf H2.objs.size ∧ b ≠ s₂.heap.objs.size := fun b hb => ⟨fun q => by have := hoaC b q; rw [hC] at this; exact absurd (Nat.lt_of_lt_of_le hb (Nat.le_trans (Nat.le_succ _) this)) (Nat.lt_irrefl _), Nat.ne_of_lt hb⟩
  have hDo : s₂.heap.objs.size ∉ oaf H2.objs.size := fun q => by have := hoaC _ q; rw [hC] at this; exact absurd this (Nat.not_succ_le_self _)
  have hDf : s₂.heap.objs.size ∉ fp := fun hm => Nat.lt_irrefl _ (hfp _ hm)
  have old : ∀ b o, s₂.heap.get? b = some o → h₁.get? b = some o := fun b o e => hH1 ▸ pushCells_keeps _ _ b o (Heap.get?_push_of_some _ (hH2 ▸ Heap.get?_push_of_some _ e))
  have hacc : h₁.get? s₂.heap.objs.size = some (lst []) := hH1 ▸ pushCells_keeps _ _ _ _ (Heap.get?_push_of_some _ (hH2 ▸ Heap.get?_push_size _ rfl))
  have hst₁ : St 0 h₁ := W.frame _ _ _ hst fun b _ o e => old b o e
  have fresh : ∀ a, s₂.heap.objs.size ≤ a → s₂.heap.get? a = none := fun a ha => by
    cases e : s₂.heap.get? a with
    | none => rfl
    | some o' => exact absurd (Heap.lt_size e) (Nat.not_lt.mpr ha)
  have fresh₀ : ∀ a, s₂.heap.objs.size ≤ a → h₀.get? a = none := fun a ha => by
    cases e : h₀.get? a with
    | none => rfl
    | some o' => have := F.keep a o' e; rw [fresh a ha] at this; cases this
  have hD₀ : h₀.get? s₂.heap.objs.size = none := fresh₀ _ (Nat.le_refl _)
  have hoa₀ : ∀ a ∈ oaf H2.objs.size, h₀.get? a = none := fun a ha => fresh₀ a (by have := hoaC a ha; rw [hC] at this; exact Nat.le_trans (Nat.le_succ _) this)
  have hLlt : L < s₂.heap.objs.size := F.ns.lt
  have hDL : s₂.heap.objs.size ≠ L := Ne.symm (below L hLlt).2
  have hoaL : ∀ a ∈ oaf H2.objs.size, a ≠ L := fun a ha q => (below L hLlt).1 (q ▸ ha)
  have hltD : ∀ p ∈ Ld c₀, p.1 < s₂.heap.objs.size := fun p hp => Heap.lt_size (N p hp).1
  have hwsb : ∀ b ∈ ws.map (·.1), (@LT.lt Nat _ b s₂.heap.objs.size) ∧ b ∉ oaf H2.objs.size := fun b hb => ⟨hfp b (hws b hb).1, (below b (hfp b (hws b hb).1)).1⟩
  have hof : ∀ a ∈ oaf H2.objs.size, a ∉ fp := fun a ha hm => (below a (hfp a hm)).1 ha
  have hwrf : ∀ b ∈ wr, b ∈ fp := W.sub
  have hwrD : s₂.heap.objs.size ∉ wr := fun h => hDf (hwrf _ h)
  have hwro : ∀ a ∈ oaf H2.objs.size, a ∉ wr := fun a ha h => hof a ha (hwrf _ h)
  have hwrL : L ∉ wr := fun h => (hws L (hwr L h)).2.2 rfl
  have hwr0 : ∀ b o, h₀.get? b = some o → b ∉ wr := fun b o e h => by rw [(hws b (hwr b h)).2.1] at e; cases e
  have loop : ∀ s₃ : Shared, s₃ = { s₂ with heap := h₁ } →
      codeAny (model prog w) A (.compLoop (.ListComp elt [⟨target, iter, ifs, 0⟩] scope pos) 0 (.ref I) (.ref s₂.heap.objs.size) (compEnvC scope (cellsFrom (H2.objs.size + 1) scope.names cl) H2.objs.size env))
        (RR (.ref s₂.heap.objs.size) H2.objs.size) s₃ := by
    rintro s₃ rfl
    refine compLoop2
      (fun k s' => CLoop h₀ L m s₂ n St (oaf H2.objs.size) (Ow H2.objs.size) Ld (ws.map (·.1)) s₂.heap.objs.size Done k s') ?_ (n + 1)
      ⟨h₁, _, 0, [], own0, c₀, rfl, Nat.zero_le _, rfl, Nat.le_refl _, hst₁, F.keeps old, hO.1, hO.2, fun p hp => ?_, fun p hp => ⟨hnw p hp, (below _ (hltD p hp)).2, (below _ (hltD p hp)).1⟩, h0⟩
    · rintro k s' hx92
      refine goal_abs fun hG9 => ?_
      obtain ⟨h', tk, i, ys, own, c, rfl, hi, rfl, hyl, hst', F', hn', ho', N', hap, hd'⟩ := hx92
      refine hG9 ?_
      clear hG9
      have but : ∀ g : Heap, (∀ b o, b ∉ wr → h'.get? b = some o → g.get? b = some o) → Fr h₀ L g m ∧ News h₀ L g ((s₂.heap.objs.size, lst ys) :: Ld c) ∧ OwnAt g (oaf H2.objs.size) own := fun g hk =>
        ⟨⟨F'.ns.at' fun o e => hk _ o hwrL e, fun b o e => hk b o (hwr0 b o e) (F'.keep b o e), F'.above⟩, fun p hp => ⟨hk _ _ (by
          rcases List.mem_cons.mp hp with rfl | hp
          · exact hwrD
          · exact fun q => (hap p hp).1 (hwr _ q)) (N' p hp).1, (N' p hp).2⟩, hn'.1, fun p hp => hk _ _ (hwro _ (hn'.1 ▸ List.mem_map_of_mem hp)) (hn'.2 p hp)⟩
      by_cases hlt' : i < n
      · refine W.item i _ _ _ hlt' hst' fun v h₂ tk₂ hMd hk₂ => ?_
        refine W.go i v _ _ _ hMd fun h₃ hP hst₃ hk₃ => ?_
        refine goal_abs fun hG9 => ?_
        obtain ⟨F₃, N₃, n₃⟩ := but h₃ fun b o hb e => hk₃ b o hb (hk₂ b o hb e)
        refine hG9 ?_
        clear hG9
        refine hasg i v h₃ tk₂ _ own _ _ hlt' hP n₃ ho' fun h₄ tk₄ own' hx₄ n₄ ho₄ hB => ?_
        have hst₄ : St (i + 1) h₄ := W.frame _ _ _ hst₃ fun b hb o e => hx₄ b o (fun q => hof b q hb) e
        refine goal_abs fun hG9 => ?_
        obtain ⟨its, hits, hval⟩ := hobj _ _ hst₄
        refine hG9 ?_
        clear hG9
        have hmap := hits.map
        have F₄ : Fr h₀ L h₄ m := ⟨F₃.ns.at' fun o e => hx₄ _ o (fun q => hoaL _ q rfl) e, fun b o e => hx₄ b o (fun q => by rw [hoa₀ b q] at e; cases e) (F₃.keep b o e), F₃.above⟩
        have N₄ : News h₀ L h₄ (its ++ (own' ++ (s₂.heap.objs.size, lst ys) :: Ld c)) := fun p hp => by
          rcases List.mem_append.mp hp with hp | hp
          · have h1 : p.1 ∈ ws.map (·.1) := by rw [← hmap]; exact List.mem_map.mpr ⟨p, hp, rfl⟩
            exact ⟨hval p hp, (hws _ h1).2.2, (hws _ h1).2.1⟩
          · rcases List.mem_append.mp hp with hp | hp
            · have h1 : p.1 ∈ oaf H2.objs.size := n₄.1 ▸ List.mem_map_of_mem hp
              exact ⟨n₄.2 p hp, hoaL _ h1, hoa₀ _ h1⟩
            · refine ⟨hx₄ _ _ ?_ (N₃ p hp).1, (N₃ p hp).2⟩
              rcases List.mem_cons.mp hp with rfl | hp
              · exact hDo
              · exact (hap p hp).2.2
        have back : ∀ (g : Heap) (all : Led), Fr h₀ L g m → News h₀ L g all → (∀ p ∈ its, p ∈ all) → (∀ p ∈ Ld c, h₄.get? p.1 = some p.2 → True) → (∀ p ∈ keep, p ∈ all) → St (i + 1) g := fun g all Fg Ng hia _ hka => W.frame _ _ _ hst₄ fun b hb o e => by
          rcases hfk b hb with hb' | ⟨o', hb'⟩ | ⟨o', hb'⟩
          · rw [← hmap] at hb'
            obtain ⟨q, hq, hqe⟩ := List.mem_map.mp hb'
            have e1 : h₄.get? q.1 = some q.2 := hval q hq
            rw [hqe, e] at e1
            rw [Option.some.inj e1]
            have e2 := (Ng q (hia q hq)).1
            rw [hqe] at e2
            exact e2
          · have e1 := (N₄ (b, o') (List.mem_append_right _ (List.mem_append_right _ (.tail _ (hkp i c ys hd' _ hb'))))).1
            dsimp only at e1
            rw [e] at e1
            rw [Option.some.inj e1]
            exact (Ng (b, o') (hka _ hb')).1
          · have e1 := F₄.keep b o' hb'
            rw [e] at e1
            rw [Option.some.inj e1]
            exact Fg.keep b o' hb'
        refine tst_mono ((turn i c ys _ _ own' h₄ tk₄ _ hlt' hd' hB n₄.1 F₄ hap hwsb hDo (by rw [hC]; exact Nat.lt_succ_self _)).at hits N₄) (fun ok s₄ h₅ => ?_)
        cases ok with
        | true =>
          simp only [if_true] at h₅ ⊢
          refine wpAny_mono h₅ (fun y s₅ h₆ => ?_) fun _ _ e => e
          refine goal_abs fun hG9 => ?_
          obtain ⟨h₆, tk₆, c₆, all, rfl, F₆, N₆, hia, hoall, hDall, hLall, hap₆, hd₆⟩ := h₆
          refine hG9 ?_
          clear hG9
          have zD := (N₆ _ hDall).1
          have hst₆ := back _ all F₆ N₆ hia (fun _ _ _ => trivial) fun p hp => hLall p (hkp _ _ _ hd₆ p hp)
          refine append_at (hsz := by show ys.toArray.size ≤ sizeLine; rw [List.size_toArray]; exact Nat.le_trans (Nat.le_trans hyl hi) hsz) zD fun h₇ hs₇ hD₇ => ?_
          refine ⟨n + 1 - (i + 1), by omega, h₇, tk₆, i + 1, ys ++ [y], own', c₆, rfl, hlt', rfl, by rw [List.length_append, List.length_singleton]; exact Nat.succ_le_succ hyl, W.frame _ _ _ hst₆ fun b hb o e => hs₇.extBut b o (fun q => hDf (q ▸ hb)) e, F₆.change hs₇ hDL hD₀,
            ⟨n₄.1, fun p hp => hs₇.extBut _ _ (fun q => hDo (q ▸ n₄.1 ▸ List.mem_map_of_mem hp)) (N₆ p (hoall p hp)).1⟩, ho₄, fun p hp => ?_, hap₆, hd₆⟩
          rcases List.mem_cons.mp hp with rfl | hp
          · exact ⟨hD₇.trans (congrArg some (lst_snoc ys y)), hDL, hD₀⟩
          · have z := N₆ p (hLall p hp)
            exact ⟨hs₇.extBut _ _ (hap₆ p hp).2.1 z.1, z.2⟩
        | false =>
          simp only [Bool.false_eq_true, if_false] at h₅ ⊢
          refine goal_abs fun hG9 => ?_
          obtain ⟨h₆, tk₆, c₆, all, rfl, F₆, N₆, hia, hoall, hDall, hLall, hap₆, hd₆⟩ := h₅
          refine hG9 ?_
          clear hG9
          exact ⟨n + 1 - (i + 1), by omega, h₆, tk₆, i + 1, ys, own', c₆, rfl, hlt', rfl, Nat.le_succ_of_le hyl, back _ all F₆ N₆ hia (fun _ _ _ => trivial) fun p hp => hLall p (hkp _ _ _ hd₆ p hp), F₆, ⟨n₄.1, fun p hp => (N₆ p (hoall p hp)).1⟩, ho₄, fun p hp => (List.mem_cons.mp hp).elim (fun q => q ▸ N₆ _ hDall) fun hp => N₆ p (hLall p hp), hap₆, hd₆⟩
      · obtain rfl : i = n := Nat.le_antisymm hi (Nat.not_lt.mp hlt')
        refine W.done _ _ _ hst' fun h₂ tk₂ hk₂ => ?_
        refine goal_abs fun hG9 => ?_
        obtain ⟨F₂, N₂, n₂⟩ := but h₂ hk₂
        refine hG9 ?_
        clear hG9
        refine goal_abs fun hG9 => ?_
        obtain ⟨oC, m', hCm, hns⟩ := hCo _ own n₂.1 ho'
        refine hG9 ?_
        clear hG9
        have hCo' : H2.objs.size ∈ oaf H2.objs.size := n₂.1 ▸ List.mem_map_of_mem hCm
        exact hRR _ _ h₂ tk₂ m' c ys F₂ N₂ (fun p hp => (hap p hp).2.1) (hns.ns (n₂.2 _ hCm)) (hoa₀ _ hCo') hD₀ (hoaL _ hCo') hDL (Ne.symm hDC) (fun p hp q => (hap p hp).2.2 (q ▸ hCo')) hltD hd'
    · rcases List.mem_cons.mp hp with rfl | hp
      · exact ⟨hacc, hDL, hD₀⟩
      · exact ⟨old _ _ (N p hp).1, (N p hp).2⟩
  exact codeAny_compStart_list (loop _ rfl) (hself _ _ _ hst₁ (loop _ rfl))
end
/-! K5 -/
section
variable {prog : Program} {w : World} {A : Around} {E : Value → Shared → Prop} {s : Shared} {h₀ : Heap} {L : Addr} {m : Str → Option Value} {env : Env}
/-- how a comprehension's frame is laid: which addresses are its own, what they bear -/
structure Own (scope : Scope) where
  oaf : Addr → List Addr
  Ow : Addr → Led → Prop
  is : ∀ (s₁ : Shared), OwnAt (pushCells (s₁.heap.push { cls := .type "dict", data := .dict #[] }) scope.names) (oaf s₁.heap.objs.size) ((oaf s₁.heap.objs.size).filterMap fun a => ((pushCells (s₁.heap.push { cls := .type "dict", data := .dict #[] }) scope.names).get? a).map (a, ·)) ∧
      Ow s₁.heap.objs.size ((oaf s₁.heap.objs.size).filterMap fun a => ((pushCells (s₁.heap.push { cls := .type "dict", data := .dict #[] }) scope.names).get? a).map (a, ·))
  le : ∀ C, ∀ a ∈ oaf C, @LE.le Nat _ C a
  ns : ∀ C own, own.map (·.1) = oaf C → Ow C own → ∃ o m', (C, o) ∈ own ∧ NsObj o m'
theorem pushCells_none : ∀ (names : List (Str × NameKind)) (h : Heap), (∀ y ∈ names, y.2 ≠ .cell) → pushCells h names = h
  | [], _, _ => rfl
  | (n, k) :: r, h, hc => by
    unfold pushCells
    have hk : (k == NameKind.cell) = false := by simpa using hc (n, k) (.head _)
    rw [if_neg (by rw [hk]; exact Bool.false_ne_true)]
    exact pushCells_none r h fun y hy => hc y (.tail _ hy)
theorem cellsFrom_none : ∀ (names : List (Str × NameKind)) (n : Nat) (cl : List (Str × Addr)), (∀ y ∈ names, y.2 ≠ .cell) → cellsFrom n names cl = cl
  | [], _, _, _ => rfl
  | (n, k) :: r, j, cl, hc => by
    unfold cellsFrom
    have hk : (k == NameKind.cell) = false := by simpa using hc (n, k) (.head _)
    rw [if_neg (by rw [hk]; exact Bool.false_ne_true)]
    exact cellsFrom_none r j cl fun y hy => hc y (.tail _ hy)
/-- a frame without cells -/
def ownPlain (scope : Scope) (hc : ∀ y ∈ scope.names, y.2 ≠ .cell) : Own scope where
  oaf := fun C => [C]
  Ow := fun C own => ∃ oC m', own = [(C, oC)] ∧ NsObj oC m'
  is := fun s₁ => by
    rw [pushCells_none _ _ hc]
    have e : (s₁.heap.push { cls := .type "dict", data := .dict #[] }).get? s₁.heap.objs.size = some { cls := .type "dict", data := .dict #[] } := Heap.get?_push_size _ rfl
    simp only [List.filterMap_cons, e, Option.map_some, List.filterMap_nil]
    obtain ⟨oC, h1, h2⟩ := ns_obj (Heap.Ns.new s₁.heap (.type "dict"))
    rw [e] at h1
    obtain rfl := Option.some.inj h1
    exact ⟨⟨rfl, fun p hp => by rw [List.mem_singleton.mp hp]; exact e⟩, _, _, rfl, h2⟩
  le := fun C a ha => by rw [List.mem_singleton.mp ha]; exact Nat.le_refl _
  ns := fun C own _ ho => by
    obtain ⟨oC, m', rfl, h⟩ := ho
    exact ⟨oC, m', .head _, h⟩
/-- a frame with one cell -/
def ownCell (scope : Scope) (pre post : List (Str × NameKind)) (x : Str) (e : scope.names = pre ++ (x, .cell) :: post) (h1 : ∀ y ∈ pre, y.2 ≠ .cell) (h2 : ∀ y ∈ post, y.2 ≠ .cell) : Own scope where
  oaf := fun C => [C, C + 1]
  Ow := fun C own => ∃ oC m' oc v, own = [(C, oC), (C + 1, oc)] ∧ NsObj oC m' ∧ oc.data = .cell v
  is := fun s₁ => by
    have hp : pushCells (s₁.heap.push { cls := .type "dict", data := .dict #[] }) scope.names = (s₁.heap.push { cls := .type "dict", data := .dict #[] }).push { cls := .type "cell", data := .cell none } := by
      rw [e]
      have : ∀ (l : List (Str × NameKind)) (h : Heap), (∀ y ∈ l, y.2 ≠ .cell) → pushCells h (l ++ (x, .cell) :: post) = h.push { cls := .type "cell", data := .cell none } := by
        intro l
        induction l with
        | nil =>
          intro h _
          show pushCells h ((x, .cell) :: post) = _
          unfold pushCells
          rw [if_pos (show (NameKind.cell == NameKind.cell) = true from rfl), pushCells_none _ _ h2]
        | cons a r ih =>
          intro h hc
          obtain ⟨n, k⟩ := a
          show pushCells h ((n, k) :: (r ++ (x, .cell) :: post)) = _
          unfold pushCells
          have hk : (k == NameKind.cell) = false := by simpa using hc (n, k) (.head _)
          rw [if_neg (by rw [hk]; exact Bool.false_ne_true)]
          exact ih h fun y hy => hc y (.tail _ hy)
      exact this pre _ h1
    rw [hp]
    have e1 : ((s₁.heap.push { cls := .type "dict", data := .dict #[] }).push { cls := .type "cell", data := .cell none }).get? s₁.heap.objs.size = some { cls := .type "dict", data := .dict #[] } := Heap.get?_push_of_some _ (Heap.get?_push_size _ rfl)
    have e2 : ((s₁.heap.push { cls := .type "dict", data := .dict #[] }).push { cls := .type "cell", data := .cell none }).get? (s₁.heap.objs.size + 1) = some { cls := .type "cell", data := .cell none } := Heap.get?_push_at (by rw [Heap.size_push]) rfl
    simp only [List.filterMap_cons, e1, e2, Option.map_some, List.filterMap_nil]
    obtain ⟨oC, q1, q2⟩ := ns_obj (Heap.Ns.new s₁.heap (.type "dict"))
    have e3 : (s₁.heap.push { cls := .type "dict", data := .dict #[] }).get? s₁.heap.objs.size = some { cls := .type "dict", data := .dict #[] } := Heap.get?_push_size _ rfl
    rw [e3] at q1
    obtain rfl := Option.some.inj q1
    refine ⟨⟨rfl, fun p hp => ?_⟩, _, _, _, _, rfl, q2, rfl⟩
    rcases List.mem_cons.mp hp with rfl | hp
    · exact e1
    · rw [List.mem_singleton.mp hp]; exact e2
  le := fun C a ha => by
    rcases List.mem_cons.mp ha with rfl | ha
    · exact Nat.le_refl _
    · rw [List.mem_singleton.mp ha]; exact Nat.le_succ _
  ns := fun C own _ ho => by
    obtain ⟨oC, m', oc, v, rfl, h, _⟩ := ho
    exact ⟨oC, m', .head _, h⟩

/-- an iterator that a comprehension may walk -/
inductive CompAt2 (prog : Program) (w : World) (A : Around) (h₀ : Heap) (L : Addr) (m : Str → Option Value) (env : Env) (target : Expr) (ifs : List Expr) (elt : Expr) (scope : Scope) (cl : List (Str × Addr)) (O : Own scope) (Fin : Shared → List Value → Led → Led → Prop) (it : Value) (s₂ : Shared) : Prop
  | mk (σ : Type) (I : Addr) (fp wr : List Addr) (n : Nat) (P Md : Nat → Value → Heap → Prop) (St : Nat → Heap → Prop) (ws : List (Addr × String)) (Ld : σ → Led) (keep : Led) (c₀ : σ) (Done : Nat → σ → List Value → Prop) (Bd : Nat → Addr → Led → Prop) (x0 : it = .ref I) (x1 : KTurns prog w A target I fp wr n P Md St) (x2 : (∀ (s : Shared) (Q : Value → Shared → Prop) (E : Value → Shared → Prop), St 0 s.heap → Q (.ref I) s → wpAny (model prog w) A (pyIter (.ref I)) Q E s)) (x3 : n ≤ sizeLine) (x4 : (∀ i h, St i h → ∃ its, Objs ws its ∧ ∀ p ∈ its, h.get? p.1 = some p.2)) (x5 : (∀ b ∈ ws.map (·.1), b ∈ fp ∧ h₀.get? b = none ∧ b ≠ L)) (x6 : (∀ b ∈ wr, b ∈ ws.map (·.1))) (x7 : (∀ b ∈ fp, b ∈ ws.map (·.1) ∨ (∃ o, (b, o) ∈ keep) ∨ ∃ o, h₀.get? b = some o)) (x8 : (∀ i c ys, Done i c ys → ∀ p ∈ keep, p ∈ Ld c)) (x9 : (∀ p ∈ Ld c₀, p.1 ∉ ws.map (·.1))) (x10 : St 0 s₂.heap) (x11 : (∀ b ∈ fp, b < s₂.heap.objs.size)) (x12 : Fr h₀ L s₂.heap m) (x13 : News h₀ L s₂.heap (Ld c₀)) (x14 : (∀ i v h tk C own (Q : Unit → Shared → Prop) (E' : Value → Shared → Prop), i < n → P i v h → OwnAt h (O.oaf C) own → O.Ow C own → (∀ h' tk' own', (∀ b o, b ∉ O.oaf C → h.get? b = some o → h'.get? b = some o) → OwnAt h' (O.oaf C) own' → O.Ow C own' → Bd i C own' → Q () { s₂ with heap := h', toks := tk' }) → wpAny (model prog w) A (assign target (compEnvC scope (cellsFrom (C + 1) scope.names cl) C env) v) Q E' { s₂ with heap := h, toks := tk })) (x15 : Done 0 c₀ []) (x16 : CTurn2 prog w A h₀ L m env ifs elt scope cl s₂ ws n O.oaf Ld Done Bd) (x17 : ∀ c ys, Done n c ys → Fin s₂ ys (Ld c₀) (Ld c))
/-- what follows a comprehension: its list is laid, under no name -/
def FinV2 (h₀ : Heap) (L : Addr) (m : Str → Option Value) (Q : Value → Shared → Prop) (s : Shared) (ys : List Value) (old news : Led) : Prop :=
  ∀ D h tk, Fr h₀ L h m → News h₀ L h ((D, lst ys) :: news) → (∀ p ∈ old, p.1 < D) → (∀ p ∈ news, p.1 ≠ D) → Q (.ref D) { s with heap := h, toks := tk }
def FinN2 (h₀ : Heap) (L : Addr) (m : Str → Option Value) (y : Str) (Q : Flow → Shared → Prop) (s : Shared) (ys : List Value) (old news : Led) : Prop :=
  ∀ D h tk, Fr h₀ L h (fun z => if z = y then some (.ref D) else m z) → News h₀ L h ((D, lst ys) :: news) → (∀ p ∈ old, p.1 < D) → (∀ p ∈ news, p.1 ≠ D) → Q .next { s with heap := h, toks := tk }

theorem comp_eval2 {target elt iter : Expr} {ifs : List Expr} {scope : Scope} {cl : List (Str × Addr)} {pos : Pos} {Q : Value → Shared → Prop} (O : Own scope) (_F : Fr h₀ L s.heap m)
    (hclos : closureFor scope env = pure cl) (hkind : scope.kind = .function) (hnames : ∀ y ∈ scope.names, y.2 = .local → scope.names.lookup y.1 = some .local)
    (h : wpAny (model prog w) A (eval iter env) (fun xv s₁ => wpAny (model prog w) A (pyIter xv) (CompAt2 prog w A h₀ L m env target ifs elt scope cl O (FinV2 h₀ L m Q)) E s₁) E s)
    (hs : ∀ x, foldedSetIterable iter env x = pure x := by intro _; rfl) :
    wpAny (model prog w) A (eval (.ListComp elt [⟨target, iter, ifs, 0⟩] scope pos) env) Q E s := by
  rw [eval_ListComp]
  refine wpAny_comprehension_free (use := none) rfl hs hclos hkind hnames (wpAny_mono h (fun xv s₁ h₁ => wpAny_mono h₁ (fun it s₂ h₂ => ?_) fun _ _ e => e) fun _ _ e => e)
  refine goal_abs fun hG9 => ?_
  obtain ⟨σ, I, fp, wr, n, P, Md, St, ws, Ld, keep, c₀, Done, Bd, rfl, W, a1, a2, a3, a4, a5, a6, a7, a8, a9, a10, a11, a12, a13, a14, a15, a16⟩ := h₂
  refine hG9 ?_
  clear hG9
  refine comp_block2 W a1 a2 a3 a4 a5 a6 a7 a8 O.is O.le O.ns a9 a10 a11 a12 a13 a14 a15 ?_
  intro D C h tk m' c ys F' N' hD hn hC₀ hD₀ hCL hDL hCD hpC hlt fin
  refine ⟨m', hn, fun h'' hs'' => a16 c ys fin D h'' tk (F'.change hs'' hCL hC₀) (fun p hp => ?_) hlt hD⟩
  refine ⟨hs''.extBut _ _ ?_ (N' p hp).1, (N' p hp).2⟩
  rcases List.mem_cons.mp hp with rfl | hp
  · exact Ne.symm hCD
  · exact hpC p hp

theorem comp_assign2 {target elt iter : Expr} {ifs : List Expr} {y : Str} {py : Pos} {scope : Scope} {cl : List (Str × Addr)} {pos spos : Pos} {Q : Flow → Shared → Prop} (O : Own scope) (F₀ : Fr h₀ L s.heap m) (hLe : env.locals = L)
    (hsw : swapsWith (.ListComp elt [⟨target, iter, ifs, 0⟩] scope pos) (some (.Name y py)) spos.line env = pure true)
    (hclos : closureFor scope env = pure cl) (hkind : scope.kind = .function) (hnames : ∀ z ∈ scope.names, z.2 = .local → scope.names.lookup z.1 = some .local)
    (hy : env.kindOf y = some .local) (hp : (env.scope.kind == .class || (env.scope.kind == .module && env.locals != env.globals)) = false)
    (h : wpAny (model prog w) A (eval iter env) (fun xv s₁ => wpAny (model prog w) A (pyIter xv) (CompAt2 prog w A h₀ L m env target ifs elt scope cl O (FinN2 h₀ L m y Q)) E s₁) E s)
    (hs : ∀ x, foldedSetIterable iter env x = pure x := by intro _; rfl) :
    wpAny (model prog w) A (exec (.Assign [.Name y py] (.ListComp elt [⟨target, iter, ifs, 0⟩] scope pos) spos) env) Q E s := by
  subst hLe
  rw [exec_Assign_Name_used _ _ _ _ hsw]
  refine wpAny_bind (wpAny_standAt (wpAny_bind ?_))
  show wpAny _ A (do let _ ← comprehension (.ListComp elt [⟨target, iter, ifs, 0⟩] scope pos) scope env _ (newList []) false (eval iter env) (some (assign (.Name y py) env))) _ _ s
  refine wpAny_bind (wpAny_mono (wpAny_comprehension_free (use := some (assign (.Name y py) env)) (Q := fun _ s' => Q .next s') rfl hs hclos hkind hnames
    (wpAny_mono h (fun xv s₁ h₁ => wpAny_mono h₁ (fun it s₂ h₂ => ?_) fun _ _ e => e) fun _ _ e => e)) (fun _ s' hq => wpAny_pure (wpAny_pure hq)) fun _ _ e => e)
  refine goal_abs fun hG9 => ?_
  obtain ⟨σ, I, fp, wr, n, P, Md, St, ws, Ld, keep, c₀, Done, Bd, rfl, W, a1, a2, a3, a4, a5, a6, a7, a8, a9, a10, a11, a12, a13, a14, a15, a16⟩ := h₂
  refine hG9 ?_
  clear hG9
  refine comp_block2 W a1 a2 a3 a4 a5 a6 a7 a8 O.is O.le O.ns a9 a10 a11 a12 a13 a14 a15 ?_
  intro D C h' tk m' c ys F' N' hD hn hC₀ hD₀ hCL hDL hCD hpC hlt fin
  show wpAny _ A (assign (.Name y py) env (.ref D)) _ _ _
  refine wpAny_assign_Name (wpAny_storeName_local hy F'.ns (fun h₂ hn₂ hs₂ => ?_) hp)
  have hL₀ : h₀.get? env.locals = none := Heap.get?_none_of_le F'.above
  have F₂ : Fr h₀ env.locals h₂ (fun z => if z = y then some (.ref D) else m z) := ⟨hn₂, fun b o e => hs₂.extBut b o (fun q => by rw [q, hL₀] at e; cases e) (F'.keep b o e), F'.above⟩
  refine ⟨m', hn.sameBut hs₂ hCL, fun h'' hs'' => a16 c ys fin D h'' _ (F₂.change hs'' hCL hC₀) (fun p hp => ?_) hlt hD⟩
  have z : h₂.get? p.1 = some p.2 := hs₂.extBut _ _ (N' p hp).2.1 (N' p hp).1
  refine ⟨hs''.extBut _ _ ?_ z, (N' p hp).2⟩
  rcases List.mem_cons.mp hp with rfl | hp
  · exact Ne.symm hCD
  · exact hpC p hp
end
/-! K6 -/
section
variable {prog : Program} {w : World} {A : Around} {E : Value → Shared → Prop} {s : Shared} {h₀ : Heap} {L : Addr} {m : Str → Option Value} {env : Env}
theorem asg_pair {x x₂ : Str} {px px₂ tp : Pos} {k} {scope : Scope} {cl : List (Str × Addr)} {C T : Addr} {v₁ v₂ : Value} {m' : Str → Option Value} {Q : Unit → Shared → Prop} {E' : Value → Shared → Prop} {s₂ : Shared}
    (hh : A.handled = none) (hkind : scope.kind = .function) (hx : scope.names.lookup x = some .local) (hx₂ : scope.names.lookup x₂ = some .local) (hxx : x ≠ x₂) (hT : IsTup s₂.heap T #[v₁, v₂]) (hn : s₂.heap.Ns C m')
    (h : ∀ h' tk' m₂, (∀ b o, b ≠ C → s₂.heap.get? b = some o → h'.get? b = some o) → h'.Ns C m₂ → (m₂ x = some v₁ ∧ m₂ x₂ = some v₂) → Q () { s₂ with heap := h', toks := tk' }) :
    wpAny (model prog w) A (assign (.Tuple [.Name x px, .Name x₂ px₂] k tp) (compEnvC scope cl C env) (.ref T)) Q E' s₂ := by
  refine assign_Tuple_tuple hh hT rfl rfl fun h₅ he => ?_
  have he' : ∀ b o, s₂.heap.get? b = some o → h₅.get? b = some o := fun b o e => he b o (Nat.ne_of_lt (Heap.lt_size e)) e
  refine assignInOrder_cons (wpAny_assign_Name (wpAny_storeName_local (lookup_relabel_local hx) (hn.at' fun o e => he' _ o e) (fun h₆ hn₆ hs₆ => ?_) (by simp [compEnvC, relabel, hkind])))
  refine assignInOrder_cons (wpAny_assign_Name (wpAny_storeName_local (lookup_relabel_local hx₂) hn₆ (fun h₃ hn₃ hs₃ => ?_) (by simp [compEnvC, relabel, hkind])))
  refine assignInOrder_nil (h h₃ _ _ (fun b o hb e => hs₃.extBut b o hb (hs₆.extBut b o hb (he' b o e))) hn₃ ⟨by simp [hxx], by simp⟩)
theorem asg_name {x : Str} {px : Pos} {scope : Scope} {cl : List (Str × Addr)} {C : Addr} {v : Value} {m' : Str → Option Value} {Q : Unit → Shared → Prop} {E' : Value → Shared → Prop} {s₂ : Shared}
    (hkind : scope.kind = .function) (hx : scope.names.lookup x = some .local) (hn : s₂.heap.Ns C m')
    (h : ∀ h' tk' m₂, (∀ b o, b ≠ C → s₂.heap.get? b = some o → h'.get? b = some o) → h'.Ns C m₂ → m₂ x = some v → Q () { s₂ with heap := h', toks := tk' }) :
    wpAny (model prog w) A (assign (.Name x px) (compEnvC scope cl C env) v) Q E' s₂ :=
  wpAny_assign_Name (wpAny_storeName_local (lookup_relabel_local hx) hn (fun h₃ hn₃ hs₃ => h h₃ _ _ (fun b o hb e => hs₃.extBut b o hb e) hn₃ (by simp)) (by simp [compEnvC, relabel, hkind]))
/-- a target that can be bound -/
def AsgOk (prog : Program) (w : World) (A : Around) (env : Env) (target : Expr) (scope : Scope) (cl : List (Str × Addr)) (O : Own scope) (n : Nat) (P : Nat → Value → Heap → Prop) (Bd : Nat → Addr → Led → Prop) : Prop :=
  ∀ (s₂ : Shared) i v h tk C own (Q : Unit → Shared → Prop) (E' : Value → Shared → Prop), i < n → P i v h → OwnAt h (O.oaf C) own → O.Ow C own → (∀ h' tk' own', (∀ b o, b ∉ O.oaf C → h.get? b = some o → h'.get? b = some o) → OwnAt h' (O.oaf C) own' → O.Ow C own' → Bd i C own' → Q () { s₂ with heap := h', toks := tk' }) →
      wpAny (model prog w) A (assign target (compEnvC scope (cellsFrom (C + 1) scope.names cl) C env) v) Q E' { s₂ with heap := h, toks := tk }
def BdP (x : Str) (V : Nat → Value → Prop) (i : Nat) (C : Addr) (own : Led) : Prop := ∃ oC m₂ v, own = [(C, oC)] ∧ NsObj oC m₂ ∧ V i v ∧ m₂ x = some v
def BdP2 (x x₂ : Str) (V : Nat → Value → Value → Prop) (i : Nat) (C : Addr) (own : Led) : Prop := ∃ oC m₂ v v₂, own = [(C, oC)] ∧ NsObj oC m₂ ∧ V i v v₂ ∧ m₂ x = some v ∧ m₂ x₂ = some v₂
def BdQ (V : Nat → Value → Prop) (i : Nat) (C : Addr) (own : Led) : Prop := ∃ oC m₂ oc v, own = [(C, oC), (C + 1, oc)] ∧ NsObj oC m₂ ∧ V i v ∧ oc.data = .cell (some v)
theorem asg_plain {x : Str} {px : Pos} {scope : Scope} {cl : List (Str × Addr)} {hc : ∀ y ∈ scope.names, y.2 ≠ .cell} {n : Nat} {P : Nat → Value → Heap → Prop} {V : Nat → Value → Prop} (hkind : scope.kind = .function) (hx : scope.names.lookup x = some .local) (hv : ∀ i v h, i < n → P i v h → V i v) :
    AsgOk prog w A env (.Name x px) scope cl (ownPlain scope hc) n P (BdP x V) := by
  intro s₂ i v h tk C own Q E' hi hP hO ho hq
  obtain ⟨oC, m', rfl, hns⟩ := ho
  have hC : h.get? C = some oC := hO.2 _ (.head _)
  refine asg_name (s₂ := { s₂ with heap := h, toks := tk }) hkind hx (hns.ns hC) fun h' tk' m₂ a b c => ?_
  obtain ⟨oC', hC', hns'⟩ := ns_obj b
  refine hq h' tk' [(C, oC')] (fun b o hb e => a b o (fun q => hb (q ▸ .head _)) e) ⟨rfl, fun p hp => by rw [List.mem_singleton.mp hp]; exact hC'⟩ ⟨_, _, rfl, hns'⟩ ⟨oC', m₂, v, rfl, hns', hv i v h hi hP, c⟩
theorem asg_pairP {x x₂ : Str} {px px₂ tp : Pos} {k} {scope : Scope} {cl : List (Str × Addr)} {hc : ∀ y ∈ scope.names, y.2 ≠ .cell} {n : Nat} {P : Nat → Value → Heap → Prop} {V : Nat → Value → Value → Prop} (hh : A.handled = none) (hkind : scope.kind = .function) (hx : scope.names.lookup x = some .local) (hx₂ : scope.names.lookup x₂ = some .local) (hxx : x ≠ x₂)
    (hv : ∀ i v h, i < n → P i v h → ∃ T v₁ v₂, v = .ref T ∧ IsTup h T #[v₁, v₂] ∧ V i v₁ v₂) :
    AsgOk prog w A env (.Tuple [.Name x px, .Name x₂ px₂] k tp) scope cl (ownPlain scope hc) n P (BdP2 x x₂ V) := by
  intro s₂ i v h tk C own Q E' hi hP hO ho hq
  obtain ⟨oC, m', rfl, hns⟩ := ho
  have hC : h.get? C = some oC := hO.2 _ (.head _)
  obtain ⟨T, v₁, v₂, rfl, hT, hV⟩ := hv i v h hi hP
  refine asg_pair (s₂ := { s₂ with heap := h, toks := tk }) hh hkind hx hx₂ hxx hT (hns.ns hC) fun h' tk' m₂ a b c => ?_
  obtain ⟨oC', hC', hns'⟩ := ns_obj b
  refine hq h' tk' [(C, oC')] (fun b o hb e => a b o (fun q => hb (q ▸ .head _)) e) ⟨rfl, fun p hp => by rw [List.mem_singleton.mp hp]; exact hC'⟩ ⟨_, _, rfl, hns'⟩ ⟨oC', m₂, v₁, v₂, rfl, hns', hV, c.1, c.2⟩
theorem lookup_relabel_cell {env : Env} : ∀ {names : List (Str × NameKind)} {x : Str}, names.lookup x = some .cell →
    (names.map fun (n, k) => if (k == NameKind.free && env.scope.kind == .function && env.kindOf n == some .cell) then (n, NameKind.cell) else (n, k)).lookup x = some .cell
  | [], _, h => by simp at h
  | (n, k) :: r, x, h => by
    show List.lookup x ((if (k == NameKind.free && env.scope.kind == .function && env.kindOf n == some .cell) = true then (n, NameKind.cell) else (n, k)) :: _) = _
    cases hx : x == n with
    | true =>
      simp only [List.lookup_cons, hx] at h
      cases h
      simp [List.lookup_cons, hx]
    | false =>
      simp only [List.lookup_cons, hx] at h
      have ih := @lookup_relabel_cell env r x h
      by_cases hc : (k == NameKind.free && env.scope.kind == .function && env.kindOf n == some .cell) = true
      · rw [if_pos hc]; simp only [List.lookup_cons, hx]; exact ih
      · rw [if_neg hc]; simp only [List.lookup_cons, hx]; exact ih
theorem asg_cell {x : Str} {px : Pos} {scope : Scope} {cl : List (Str × Addr)} {pre post : List (Str × NameKind)} {e : scope.names = pre ++ (x, .cell) :: post} {h1 : ∀ y ∈ pre, y.2 ≠ .cell} {h2 : ∀ y ∈ post, y.2 ≠ .cell} {n : Nat} {P : Nat → Value → Heap → Prop} {V : Nat → Value → Prop} (hkind : scope.kind = .function)
    (hx : scope.names.lookup x = some .cell) (hcl : ∀ C : Addr, (cellsFrom (C + 1) scope.names cl).lookup x = some (C + 1)) (hv : ∀ i v h, i < n → P i v h → V i v) :
    AsgOk prog w A env (.Name x px) scope cl (ownCell scope pre post x e h1 h2) n P (BdQ V) := by
  intro s₂ i v h tk C own Q E' hi hP hO ho hq
  obtain ⟨oC, m', oc, v₀, rfl, hns, hd⟩ := ho
  have hC : h.get? C = some oC := hO.2 _ (.head _)
  have hc : h.get? (C + 1) = some oc := hO.2 _ (.tail _ (.head _))
  refine wpAny_assign_Name (wpAny_storeName_cell (s := { s₂ with heap := h, toks := tk }) (c := C + 1) (by show (relabel scope env).kind = _; exact hkind) (by show (relabel scope env).names.lookup x = _; exact lookup_relabel_cell hx) (hcl C) ⟨oc, hc, hd⟩ fun h' hv' hs' => ?_)
  obtain ⟨oc', hc', hd'⟩ := hv'
  have hC' : h'.get? C = some oC := hs'.extBut _ _ (Nat.ne_of_lt (Nat.lt_succ_self _)) hC
  refine hq h' tk [(C, oC), (C + 1, oc')] (fun b o hb e => hs'.extBut b o (fun q => hb (q ▸ .tail _ (.head _))) e) ⟨rfl, fun p hp => ?_⟩ ⟨_, _, _, _, rfl, hns, hd'⟩ ⟨oC, m', oc', v, rfl, hns, hv i v h hi hP, hd'⟩
  rcases List.mem_cons.mp hp with rfl | hp
  · exact hC'
  · rw [List.mem_singleton.mp hp]; exact hc'

/-- the source range(n) -/
theorem comp_range2 {target elt : Expr} {ifs : List Expr} {scope : Scope} {cl : List (Str × Addr)} (O : Own scope) {Fin : Shared → List Value → Led → Led → Prop} {r : Addr} {b : Int} {n : Nat} {t u v : Tok} {news : Led} {σ : Type} (Ld : σ → Led) (c₀ : σ) (Done : Nat → σ → List Value → Prop) {Bd : Nat → Addr → Led → Prop}
    (hh : A.handled = none) (F : Fr h₀ L s.heap m) (N : News h₀ L s.heap news) (hr : IsRange s.heap r 0 b 1 t u v) (hb : b = (n : Nat)) (hsz : n ≤ 1000) (hn : news = Ld c₀)
    (hgo : ∀ it v, letOwnedTupleGo target it v = pure ()) (asg : AsgOk prog w A env target scope cl O n (fun i v _ => i < n ∧ ∃ t, v = .int (i : Nat) t) Bd) (h0 : Done 0 c₀ [])
    (turn : ∀ (s₂ : Shared) I, (∀ p ∈ news, p.1 < I) → (∃ h tk, s₂ = { s with heap := h, toks := tk }) → CTurn2 prog w A h₀ L m env ifs elt scope cl s₂ [(I, "range_iterator")] n O.oaf Ld Done Bd)
    (fin : ∀ c ys h tk, Done n c ys → Fin { s with heap := h, toks := tk } ys news (Ld c)) :
    wpAny (model prog w) A (pyIter (.ref r)) (CompAt2 prog w A h₀ L m env target ifs elt scope cl O Fin) E s := by
  subst hb hn
  have hLs : L < s.heap.objs.size := F.ns.lt
  refine wpAny_pyIter_range hr (small_nat hsz) ?_
  have W : Walks prog w A s.heap.objs.size [s.heap.objs.size] [s.heap.objs.size] n (fun i v => i < n ∧ ∃ t, v = .int (i : Nat) t) (fun i h => IsRangeIter h s.heap.objs.size (0 + (i : Nat) * 1) ((n : Int) - (i : Nat)) 1) := by
    have W₀ := (Walks.range (prog := prog) (w := w) (A := A) hh s.heap.objs.size 0 1 n).bound
    exact ⟨W₀.sub, W₀.frame, fun i s Q E hi st h => W₀.item i s Q E hi st fun v h' tk hP => h v h' tk ⟨hP.1, by obtain ⟨_, t, e⟩ := hP; exact ⟨t, by rw [e]; simp⟩⟩, W₀.done, W₀.self⟩
  have KT : KTurns prog w A target s.heap.objs.size _ _ n _ _ _ := KTurns.ofWalks W fun i v s Q E _ q => wpAny_of_eq (hgo _ _) q
  refine ⟨σ, _, _, _, _, _, _, _, [(s.heap.objs.size, "range_iterator")], Ld, [], c₀, Done, Bd, rfl, KT, fun s Q E st q => W.self 0 s Q E st q, Nat.le_trans hsz (by rw [sizeLine_eq]; omega), ?_, ?_, ?_, ?_, (fun _ _ _ _ p hp => by cases hp), ?_, ?_, ?_, F.keeps fun _ _ e => Heap.get?_push_of_some _ e, N.grown fun _ _ e => Heap.get?_push_of_some _ e,
    fun i v h tk C own Q E' hi hP hO ho hq => asg { s with heap := h, toks := tk } i v h tk C own Q E' hi hP hO ho fun h' tk' own' a b c d => hq h' tk' own' a b c d, h0, turn _ _ (fun p hp => Heap.lt_size (N p hp).1) ⟨_, _, rfl⟩, fun c ys hd => fin c ys _ _ hd⟩
  · intro i h st
    have h1 : ∃ o : Obj, h.get? s.heap.objs.size = some o ∧ o.cls = .type "range_iterator" := ⟨_, st, rfl⟩
    obtain ⟨o, h1, h2⟩ := h1
    exact ⟨[(s.heap.objs.size, o)], ⟨⟨rfl, h2⟩, trivial⟩, fun p hp => by rw [List.mem_singleton.mp hp]; exact h1⟩
  · intro b hb
    have hb' : b = s.heap.objs.size := by simpa using hb
    rw [hb']
    exact ⟨by simp, ktu_new F (Nat.le_refl _), Nat.ne_of_gt hLs⟩
  · intro b hb
    simpa using hb
  · intro b hb
    exact .inl (by simpa using hb)
  · intro p hp hI'
    have hb' : p.1 = s.heap.objs.size := by simpa using hI'
    exact Nat.ne_of_lt (Heap.lt_size (N p hp).1) hb'
  · show IsRangeIter _ _ _ _ _
    rw [size_nat]
    simpa using Heap.get?_push_size s.heap rfl
  · intro b hb
    have hb' : b = s.heap.objs.size := by simpa using hb
    rw [hb']
    show s.heap.objs.size < (s.heap.push _).objs.size
    rw [Heap.size_push]; exact Nat.lt_succ_self _

/-- the source a list, of the ledger or of old -/
theorem comp_list2 {target elt : Expr} {ifs : List Expr} {scope : Scope} {cl : List (Str × Addr)} (O : Own scope) {Fin : Shared → List Value → Led → Led → Prop} {l : Addr} {vs : List Value} {ol : Obj} {news : Led} {σ : Type} (Ld : σ → Led) (c₀ : σ) (Done : Nat → σ → List Value → Prop) {Bd : Nat → Addr → Led → Prop}
    (hh : A.handled = none) (F : Fr h₀ L s.heap m) (N : News h₀ L s.heap news) (hl : s.heap.IsList l vs.toArray) (ho : (l, ol) ∈ news ∨ h₀.get? l = some ol) (hkp : ∀ i c ys, Done i c ys → (l, ol) ∈ news → (l, ol) ∈ Ld c) (hsz : vs.length ≤ sizeLine) (hn : news = Ld c₀)
    (hgo : ∀ it v, letOwnedTupleGo target it v = pure ()) (asg : AsgOk prog w A env target scope cl O vs.length (fun i v _ => vs[i]? = some v) Bd) (h0 : Done 0 c₀ [])
    (turn : ∀ (s₂ : Shared) I, (∀ p ∈ news, p.1 < I) → (∃ h tk, s₂ = { s with heap := h, toks := tk }) → CTurn2 prog w A h₀ L m env ifs elt scope cl s₂ [(I, "list_iterator")] vs.length O.oaf Ld Done Bd)
    (fin : ∀ c ys h tk, Done vs.length c ys → Fin { s with heap := h, toks := tk } ys news (Ld c)) :
    wpAny (model prog w) A (pyIter (.ref l)) (CompAt2 prog w A h₀ L m env target ifs elt scope cl O Fin) E s := by
  subst hn
  obtain ⟨ol', hol, _⟩ := id hl
  have hlt : l < s.heap.objs.size := Heap.lt_size hol
  have hLs : L < s.heap.objs.size := F.ns.lt
  have hne : l ≠ s.heap.objs.size := Nat.ne_of_lt hlt
  refine wpAny_pyIter_list hl ?_
  have W := Walks.list (prog := prog) (w := w) hh s.heap.objs.size l hne vs.toArray
  have hn : vs.toArray.size = vs.length := by simp
  rw [hn] at W
  have KT : KTurns prog w A target s.heap.objs.size _ _ vs.length _ _ _ := KTurns.ofWalks W fun i v s Q E _ q => wpAny_of_eq (hgo _ _) q
  obtain ⟨keep, hk1, hk2⟩ : ∃ keep : Led, ((∃ o, (l, o) ∈ keep) ∨ ∃ o, h₀.get? l = some o) ∧ (∀ i c ys, Done i c ys → ∀ p ∈ keep, p ∈ Ld c) := by
    rcases ho with ho | ho
    · exact ⟨[(l, ol)], .inl ⟨_, .head _⟩, fun i c ys hd p hp => by rw [List.mem_singleton.mp hp]; exact hkp i c ys hd ho⟩
    · exact ⟨[], .inr ⟨_, ho⟩, fun i c ys hd p hp => by cases hp⟩
  refine ⟨σ, _, _, _, _, _, _, _, [(s.heap.objs.size, "list_iterator")], Ld, keep, c₀, Done, Bd, rfl, KT, fun s Q E st q => W.self 0 s Q E st q, hsz, ?_, ?_, ?_, ?_, hk2, ?_, ?_, ?_, F.keeps fun _ _ e => Heap.get?_push_of_some _ e, N.grown fun _ _ e => Heap.get?_push_of_some _ e,
    fun i v h tk C own Q E' hi hP hO ho hq => asg { s with heap := h, toks := tk } i v h tk C own Q E' hi (by simpa using hP) hO ho fun h' tk' own' a b c d => hq h' tk' own' a b c d, h0, turn _ _ (fun p hp => Heap.lt_size (N p hp).1) ⟨_, _, rfl⟩, fun c ys hd => fin c ys _ _ hd⟩
  · intro i h st
    obtain ⟨it, hit, hic, _⟩ := st.1
    exact ⟨[(s.heap.objs.size, it)], ⟨⟨rfl, hic⟩, trivial⟩, fun p hp => by rw [List.mem_singleton.mp hp]; exact hit⟩
  · intro b hb
    have hb' : b = s.heap.objs.size := by simpa using hb
    rw [hb']
    exact ⟨by simp, ktu_new F (Nat.le_refl _), Nat.ne_of_gt hLs⟩
  · intro b hb
    simpa using hb
  · intro b hb
    have hb' : b = s.heap.objs.size ∨ b = l := by simpa using hb
    rcases hb' with e | e
    · exact .inl (by simp [e])
    · exact .inr (e ▸ hk1)
  · intro p hp hI'
    have hb' : p.1 = s.heap.objs.size := by simpa using hI'
    exact Nat.ne_of_lt (Heap.lt_size (N p hp).1) hb'
  · exact ⟨⟨_, Heap.get?_push_size _ rfl, rfl, rfl⟩, hl.at fun o e => Heap.get?_push_of_some _ e⟩
  · intro b hb
    have hb' : b = s.heap.objs.size ∨ b = l := by simpa using hb
    show b < (s.heap.push _).objs.size
    rw [Heap.size_push]
    rcases hb' with e | e
    · rw [e]; exact Nat.lt_succ_self _
    · rw [e]; exact Nat.lt_succ_of_lt hlt
/-- the source enumerate(a list of the ledger) -/
theorem comp_enum2 {elts : List Expr} {k} {tp : Pos} {elt : Expr} {ifs : List Expr} {scope : Scope} {cl : List (Str × Addr)} (O : Own scope) {Fin : Shared → List Value → Led → Led → Prop} {l : Addr} {vs : List Value} {c : Nat} {news : Led} {σ : Type} (Ld : σ → Led) (c₀ : σ) (Done : Nat → σ → List Value → Prop) {Bd : Nat → Addr → Led → Prop}
    (hh : A.handled = none) (F : Fr h₀ L s.heap m) (N : News h₀ L s.heap news) (hm : (l, PySem.W.listOf vs.toArray c) ∈ news) (hkp : ∀ i c' ys, Done i c' ys → (l, PySem.W.listOf vs.toArray c) ∈ Ld c') (hsz : vs.length ≤ sizeLine) (hn : news = Ld c₀)
    (asg : AsgOk prog w A env (.Tuple elts k tp) scope cl O vs.length (fun i v h => ∃ T vals, v = .ref T ∧ (∃ t x, vs[i]? = some x ∧ vals = #[.int (i : Nat) t, x]) ∧ IsTup h T vals) Bd) (h0 : Done 0 c₀ [])
    (turn : ∀ (s₂ : Shared) I, (∀ p ∈ news, p.1 < I) → (∃ h tk, s₂ = { s with heap := h, toks := tk }) → CTurn2 prog w A h₀ L m env ifs elt scope cl s₂ [(I + 1, "enumerate"), (I, "list_iterator")] vs.length O.oaf Ld Done Bd)
    (fin : ∀ c ys h tk, Done vs.length c ys → Fin { s with heap := h, toks := tk } ys news (Ld c)) :
    wpAny (model prog w) A (call (.type "enumerate") [.ref l]) (fun xv s₁ => wpAny (model prog w) A (pyIter xv) (CompAt2 prog w A h₀ L m env (.Tuple elts k tp) ifs elt scope cl O Fin) E s₁) E s := by
  subst hn
  have hax := N _ hm
  have hl : s.heap.IsList l vs.toArray := ⟨_, hax.1, rfl, c, rfl⟩
  have hlt : l < s.heap.objs.size := Heap.lt_size hax.1
  have hLs : L < s.heap.objs.size := F.ns.lt
  refine call_enumerate_list hl fun h' hE hI hsz' hk => ?_
  refine wpAny_pyIter_enum hE ?_
  have W := WalksT.enumerate (prog := prog) (w := w) hh (s.heap.objs.size + 1) s.heap.objs.size l (Nat.succ_ne_self _) (ktu_ne 1 hlt) (Nat.ne_of_lt hlt) vs.toArray
  have hn : vs.toArray.size = vs.length := by simp
  rw [hn] at W
  have KT : KTurns prog w A (.Tuple elts k tp) (s.heap.objs.size + 1) _ _ vs.length _ _ _ := KTurns.ofWalksU W.toU
  refine ⟨σ, _, _, _, _, _, _, _, [(s.heap.objs.size + 1, "enumerate"), (s.heap.objs.size, "list_iterator")], Ld, [(l, PySem.W.listOf vs.toArray c)], c₀, Done, Bd, rfl, KT, fun s Q E st q => W.self 0 s Q E st q, hsz, ?_, ?_, ?_, ?_, (fun i c' ys hd p hp => by rw [List.mem_singleton.mp hp]; exact hkp i c' ys hd), ?_, ?_, ?_, F.keeps hk, N.grown hk, ?_, h0, turn _ _ (fun p hp => Heap.lt_size (N p hp).1) ⟨_, _, rfl⟩, fun c ys hd => fin c ys _ _ hd⟩
  · rintro i h ⟨⟨old, he⟩, ⟨oi, hoi, hic, _⟩, _⟩
    have he' : ∃ oe : Obj, h.get? (s.heap.objs.size + 1) = some oe ∧ oe.cls = .type "enumerate" := ⟨_, he, rfl⟩
    obtain ⟨oe, h1, h2⟩ := he'
    refine ⟨[(s.heap.objs.size + 1, oe), (s.heap.objs.size, oi)], ⟨⟨rfl, h2⟩, ⟨rfl, hic⟩, trivial⟩, fun p hp => ?_⟩
    rcases List.mem_cons.mp hp with rfl | hp
    · exact h1
    · rw [List.mem_singleton.mp hp]; exact hoi
  · intro b hb
    have hb' : b = s.heap.objs.size + 1 ∨ b = s.heap.objs.size := by simpa using hb
    rcases hb' with rfl | rfl
    · exact ⟨by simp, ktu_new F (Nat.le_add_right _ _), Nat.ne_of_gt (Nat.lt_succ_of_lt hLs)⟩
    · exact ⟨by simp, ktu_new F (Nat.le_refl _), Nat.ne_of_gt hLs⟩
  · intro b hb
    simpa using hb
  · intro b hb
    have hb' : b = s.heap.objs.size + 1 ∨ b = s.heap.objs.size ∨ b = l := by simpa using hb
    rcases hb' with rfl | rfl | rfl
    · exact .inl (by simp)
    · exact .inl (by simp)
    · exact .inr (.inl ⟨_, .head _⟩)
  · intro p hp hI'
    have hb' : p.1 = s.heap.objs.size + 1 ∨ p.1 = s.heap.objs.size := by simpa using hI'
    have hlp := Heap.lt_size (N p hp).1
    rcases hb' with e | e
    · exact ktu_ne 1 hlp e
    · exact Nat.ne_of_lt hlp e
  · exact ⟨⟨.none, hE⟩, hI, hl.at fun o e => hk l o e⟩
  · intro b hb
    have hb' : b = s.heap.objs.size + 1 ∨ b = s.heap.objs.size ∨ b = l := by simpa using hb
    have hz : s.heap.objs.size + 2 ≤ h'.objs.size := by
      have h1 := Heap.lt_size hE
      exact h1
    rcases hb' with rfl | rfl | rfl
    · exact hz
    · exact Nat.lt_of_succ_lt hz
    · exact Nat.lt_trans hlt (Nat.lt_of_succ_lt hz)
  · rintro i v h tk C own Q E' hi ⟨T, vals, rfl, ⟨t, x, hx, hv⟩, hT⟩ hO ho hq
    exact asg { s with heap := h, toks := tk } i _ h tk C own Q E' hi ⟨T, vals, rfl, ⟨t, x, by simpa using hx, hv⟩, hT⟩ hO ho fun h' tk' own' a b c d => hq h' tk' own' a b c d
end
/-! I0 -/
section
variable {prog : Program} {w : World} {A : Around} {E : Value → Shared → Prop} {s : Shared} {h₀ : Heap} {L : Addr} {m : Str → Option Value} {env : Env}
/-- a turn, its frame without cells, its target a name -/
theorem turn_plain {x : Str} {ifs : List Expr} {elt : Expr} {scope : Scope} {cl : List (Str × Addr)} {s₂ : Shared} {ws : List (Addr × String)} {n : Nat} {σ : Type} {Ld : σ → Led} {Done : Nat → σ → List Value → Prop} {V : Nat → Value → Prop} (hc : ∀ y ∈ scope.names, y.2 ≠ .cell)
    (h9 : ∀ i c ys (C D : Addr) oC m₂ v h tk (E' : Value → Shared → Prop), i < n → Done i c ys → V i v → m₂ x = some v → NsObj oC m₂ → Fr h₀ L h m → Apart (Ld c) (ws.map (·.1)) D [C] → (∀ b ∈ ws.map (·.1), @LT.lt Nat _ b D) → (@LT.lt Nat _ D C) →
      AllObj ws (fun its => News h₀ L h (its ++ (C, oC) :: (D, lst ys) :: Ld c) →
        Tst prog w A ifs (compEnvC scope cl C env) (fun ok s' => if ok = true then
          wpAny (model prog w) A (eval elt (compEnvC scope cl C env)) (fun y s'' => CEnd2 h₀ L m s₂ its [(C, oC)] (ws.map (·.1)) D [C] ys Ld (fun c' => Done (i + 1) c' (ys ++ [y])) s'') E' s'
          else CEnd2 h₀ L m s₂ its [(C, oC)] (ws.map (·.1)) D [C] ys Ld (fun c' => Done (i + 1) c' ys) s') E' { s₂ with heap := h, toks := tk })) :
    CTurn2 prog w A h₀ L m env ifs elt scope cl s₂ ws n (ownPlain scope hc).oaf Ld Done (BdP x V) := by
  intro i c ys C D own h tk E' hi hd hB _ F ap hws _ hDC
  obtain ⟨oC, m₂, v, rfl, hns, hv, hm⟩ := hB
  rw [cellsFrom_none _ _ _ hc]
  exact h9 i c ys C D oC m₂ v h tk E' hi hd hv hm hns F ap (fun b hb => (hws b hb).1) hDC

/-- an end of a turn whose element is no new object -/
theorem cend_same {σ : Type} {s₂ : Shared} {its own all : Led} {ws : List Addr} {D : Addr} {oa : List Addr} {ys : List Value} {Ld : σ → Led} {P : σ → Prop} {h' : Heap} {tk' : Nat} (c : σ) (F : Fr h₀ L h' m) (N : News h₀ L h' all) (hs : ∀ p ∈ its ++ (own ++ (D, lst ys) :: Ld c), p ∈ all) (ap : Apart (Ld c) ws D oa) (hp : P c) :
    CEnd2 h₀ L m s₂ its own ws D oa ys Ld P { s₂ with heap := h', toks := tk' } :=
  ⟨h', tk', c, all, rfl, F, N, fun p hp => hs p (List.mem_append_left _ hp), fun p hp => hs p (List.mem_append_right _ (List.mem_append_left _ hp)), hs _ (List.mem_append_right _ (List.mem_append_right _ (.head _))), fun p hp => hs p (List.mem_append_right _ (List.mem_append_right _ (.tail _ hp))), ap, hp⟩
/-- an end of a turn whose element is a new object -/
theorem cend_new {σ : Type} {s₂ : Shared} {its own all : Led} {ws : List Addr} {D e : Addr} {oe : Obj} {oa : List Addr} {ys : List Value} {Ld : σ → Led} {P : σ → Prop} {h' : Heap} {tk' : Nat} (c c' : σ) (F : Fr h₀ L h' m) (N : News h₀ L h' all) (hs : ∀ p ∈ its ++ (own ++ (D, lst ys) :: Ld c), p ∈ all) (he : (e, oe) ∈ all)
    (hc : Ld c' = (e, oe) :: Ld c) (hl : ∀ p ∈ its ++ (own ++ (D, lst ys) :: Ld c), p.1 < e) (hi : its.map (·.1) = ws) (ho : own.map (·.1) = oa) (ap : Apart (Ld c) ws D oa) (hp : P c') :
    CEnd2 h₀ L m s₂ its own ws D oa ys Ld P { s₂ with heap := h', toks := tk' } := by
  refine ⟨h', tk', c', all, rfl, F, N, fun p hp => hs p (List.mem_append_left _ hp), fun p hp => hs p (List.mem_append_right _ (List.mem_append_left _ hp)), hs _ (List.mem_append_right _ (List.mem_append_right _ (.head _))), fun p hp => ?_, fun p hp => ?_, hp⟩
  · rw [hc] at hp
    rcases List.mem_cons.mp hp with rfl | hp
    · exact he
    · exact hs p (List.mem_append_right _ (List.mem_append_right _ (.tail _ hp)))
  · rw [hc] at hp
    rcases List.mem_cons.mp hp with rfl | hp
    · refine ⟨fun q => ?_, Ne.symm (Nat.ne_of_lt (hl _ (List.mem_append_right _ (List.mem_append_right _ (.head _))))), fun q => ?_⟩
      · rw [← hi] at q
        obtain ⟨p, h1, h2⟩ := List.mem_map.mp q
        exact Nat.ne_of_lt (hl p (List.mem_append_left _ h1)) h2
      · rw [← ho] at q
        obtain ⟨p, h1, h2⟩ := List.mem_map.mp q
        exact Nat.ne_of_lt (hl p (List.mem_append_right _ (List.mem_append_left _ h1))) h2
    · exact ap p hp
theorem News.sub {l l' : Led} {h : Heap} (N : News h₀ L h l) (hs : ∀ p ∈ l', p ∈ l) : News h₀ L h l' := fun p hp => N p (hs p hp)
end
theorem sub_cons {α : Type} {x : α} {l l' : List α} (h : ∀ p ∈ l, p ∈ l') : ∀ p ∈ x :: l, p ∈ x :: l' := List.forall_mem_cons.mpr ⟨.head _, fun p hp => .tail _ (h p hp)⟩
theorem app_front {α : Type} (a : List α) {b : List α} (c : List α) : ∀ p ∈ a ++ (c ++ b), p ∈ c ++ (a ++ b) := fun _ hp => (List.mem_append.mp hp).elim (fun h => List.mem_append_right _ (List.mem_append_left _ h)) fun h =>
  (List.mem_append.mp h).elim (fun h => List.mem_append_left _ h) fun h => List.mem_append_right _ (List.mem_append_right _ h)
theorem app_rev {α : Type} (a : List α) {b c : List α} : ∀ p ∈ a ++ (c ++ b), p ∈ c ++ (a.reverse ++ b) := fun _ hp => (List.mem_append.mp hp).elim (fun h => List.mem_append_right _ (List.mem_append_left _ (List.mem_reverse.mpr h))) fun h =>
  (List.mem_append.mp h).elim (fun h => List.mem_append_left _ h) fun h => List.mem_append_right _ (List.mem_append_right _ h)
theorem rev_app {α : Type} (a : List α) {b c : List α} : ∀ p ∈ c ++ (a.reverse ++ b), p ∈ a ++ (c ++ b) := fun _ hp => (List.mem_append.mp hp).elim (fun h => List.mem_append_right _ (List.mem_append_left _ h)) fun h =>
  (List.mem_append.mp h).elim (fun h => List.mem_append_left _ (List.mem_reverse.mp h)) fun h => List.mem_append_right _ (List.mem_append_right _ h)
theorem words_I01 : True := by
  k_with "my:call ref" => ((k_here; (with_reducible show wpAny _ _ (call (Value.ref 65) [Value.ref _]) _ _ _); k_dflt (refine' call_cls ?k1ₓ ?k2ₓ ?k3ₓ ?k4ₓ ?k5ₓ ?k6ₓ ?_; (case k1ₓ => k_asm); (case k2ₓ => k_asm); (case k3ₓ => k_asm); (case k4ₓ => k_is); (case k5ₓ => k_is); (case k6ₓ => k_is); k_whole; intro xₓ dₓ hₓ Fₓ Nₓ l1ₓ l2ₓ; (try k_lt l1ₓ); (try k_lt2 l2ₓ); (refine' code_def ?k1ₓ ?k2ₓ ?k3ₓ ?k4ₓ ?k5ₓ ?kAₓ ?kFₓ ?kKₓ ?k6ₓ ?k7ₓ ?k8ₓ ?k9ₓ ?kBₓ ?_ ?c2ₓ ?c3ₓ ?c4ₓ ?c5ₓ; (case kAₓ => exact rfl); (case kFₓ => exact rfl); (case kKₓ => exact rfl); (case k1ₓ => k_asm); (case k2ₓ => k_asm); (case k3ₓ => k_asm); (case k4ₓ => k_asm); (case k5ₓ => k_asm); (case k6ₓ => k_is); (case k7ₓ => k_is); (case k8ₓ => ktr_room); (case k9ₓ => first | exact BindsTo.of_eq rfl | exact kp_binds (by k_in) (fun _ => rfl) | exact binds_K (by k_in) rfl (by k_is) rfl rfl rfl); (case c5ₓ => decide); (case kBₓ => exact locs rfl); (case c2ₓ => exact rfl); (case c3ₓ => exact rfl); (case c4ₓ => exact rfl); k_whole; intro gₓ Lₓ hₓ FGₓ Fₓ Nₓ Bₓ Xₓ Tₓ; (try dsimp only); (try k_lift Bₓ); (try k_fold)))))
  k_with "my:eval ListComp" => ((k_here; (with_reducible show wpAny _ _ (eval (PySem.Expr.ListComp _ [⟨_, _, _, _⟩] _ _) _) _ _ _); k_dflt (refine comp_eval2 (ownPlain _ (by decide)) (by k_asm) (by with_unfolding_all rfl) (by rfl) (by decide) ?_)))
  k_with "my:exec Assign cons ListComp" => ((k_here; (with_reducible show wpAny _ _ (exec (PySem.Stmt.Assign [PySem.Expr.Name _ _] (PySem.Expr.ListComp _ [⟨_, _, _, _⟩] _ _) _) _) _ _ _); k_dflt (refine comp_assign2 (ownPlain _ (by decide)) (by k_asm) (by rfl) (by with_unfolding_all rfl) (by with_unfolding_all rfl) (by rfl) (by decide) (by rfl) (by rfl) ?_)))
  trivial
/-! H1 -/
theorem allNe_le {d c : Addr} {l : Led} (h : ∀ p ∈ l, p.1 < d) (hc : @LE.le Nat _ d c) : ∀ p ∈ l, p.1 ≠ c := fun p hp => Nat.ne_of_lt (Nat.lt_of_lt_of_le (h p hp) hc)
theorem words_H11 : True := by
  k_with "my:k_all" => (first | (with_reducible exact allNe_le (kst_ltOf (by assumption)) (by omega)) | (with_reducible exact allNe_le (kst_ltOf (And.right (by assumption))) (by omega)) | (with_reducible exact allNe_le (kst_ltOf (And.right (And.right (by assumption)))) (by omega)) | (with_reducible exact allNe_le (by assumption) (by omega)))
  k_with "my:cell_enter" => ((refine' code_defC ?k1ₓ ?k2ₓ ?k3ₓ ?k4ₓ ?k5ₓ ?kAₓ ?kFₓ ?kKₓ ?k6ₓ ?k7ₓ ?k8ₓ ?k9ₓ ?kBₓ ?kDₓ ?_ ?c2ₓ ?c3ₓ ?c4ₓ; (case kAₓ => exact rfl); (case kFₓ => exact rfl); (case kKₓ => assumption); (case k1ₓ => k_asm); (case k2ₓ => k_asm); (case k3ₓ => k_asm); (case k4ₓ => k_asm); (case k5ₓ => k_asm); (case k6ₓ => k_is); (case k7ₓ => k_is); (case k8ₓ => ktr_room); (case k9ₓ => first | exact BindsTo.of_eq rfl | exact binds_K (by k_in) rfl (by k_is) rfl rfl rfl); (case kBₓ => exact rfl); (case kDₓ => decide +kernel); (case c2ₓ => exact rfl); (case c3ₓ => exact rfl); (case c4ₓ => exact rfl); k_whole; intro g1 L1 h1 tk1 cells1 FG1 F1 N1 Y1 B1 X1 T1 l1; (try k_lt l1); k_cells Y1; (try simp only [List.cons_append, List.nil_append] at N1); (try dsimp only); (try k_lift B1); (try k_fold)))
  trivial
/-- the places, of the first i, that are wanted -/
def pick (f : Nat → Int) (q : Nat → Bool) (i : Nat) : List Int := ((List.range i).filter q).map f
theorem pick_succ (f : Nat → Int) (q : Nat → Bool) (i : Nat) : pick f q (i + 1) = pick f q i ++ if q i = true then [f i] else [] := by
  unfold pick
  rw [List.range_succ, List.filter_append, List.map_append]
  congr 1
  simp only [List.filter_cons, List.filter_nil]
  split <;> rfl
theorem pick_yes {f : Nat → Int} {q : Nat → Bool} {i : Nat} {ys : List Value} {t : Tok} (h : IntsAre ys (pick f q i)) (hq : q i = true) : IntsAre (ys ++ [.int (f i) t]) (pick f q (i + 1)) := by
  rw [pick_succ, if_pos hq]; exact h.append (.cons _ _ .nil)
theorem pick_no {f : Nat → Int} {q : Nat → Bool} {i : Nat} {ys : List Value} (h : IntsAre ys (pick f q i)) (hq : ¬ q i = true) : IntsAre ys (pick f q (i + 1)) := by
  rw [pick_succ, if_neg hq, List.append_nil]; exact h
theorem pick_len (f : Nat → Int) (q : Nat → Bool) (n : Nat) : (pick f q n).length ≤ n := by
  unfold pick
  rw [List.length_map]
  exact Nat.le_trans (List.length_filter_le _ _) (by simp)
def cutAt (tx : List Int) (k n : Nat) : List Int := (tx.drop k).take n
def spotQ (tx wd : List Int) (j : Nat) : Bool := decide (cutAt tx j wd.length = wd)
def rankQ (ns : List Int) (low width : Int) (j : Nat) : Bool := decide (low ≤ ns.getD j 0 ∧ ns.getD j 0 < low + width)

theorem bmap_inj : ∀ {a b : List UInt8}, (a.map fun c => (c.toNat : Int)) = (b.map fun c => (c.toNat : Int)) → a = b
  | [], [], _ => rfl
  | [], _ :: _, h => by simp at h
  | _ :: _, [], h => by simp at h
  | x :: a, y :: b, h => by
    simp only [List.map_cons, List.cons.injEq] at h
    rw [bmap_inj h.2, UInt8.toNat_inj.mp (Int.ofNat.inj h.1)]
theorem bints_eq {a b : Array UInt8} : (a.toList == b.toList) = decide (KBw.bInts a = KBw.bInts b) := by
  by_cases h : a.toList = b.toList
  · rw [show (a.toList == b.toList) = true by simp [h]]
    exact (decide_eq_true (by unfold KBw.bInts; rw [h])).symm
  · rw [beq_eq_false_iff_ne.mpr h]
    exact (decide_eq_false fun e => h (bmap_inj e)).symm
theorem spot_is {P word : Array UInt8} {tx wd : List Int} {i : Nat} (hw : KBw.bInts word = wd) (hi : i + wd.length ≤ tx.length)
    (kb : KBw.bInts P = List.take (clipAt tx.length ((i : Int) + (wd.length : Int)) - min i tx.length) (List.drop (min i tx.length) tx)) : (P.toList == word.toList) = spotQ tx wd i := by
  rw [bints_eq, hw, kb]
  rw [show ((i : Int) + (wd.length : Int)) = ((i + wd.length : Nat) : Int) by omega, clipAt_nat, Nat.min_eq_left hi, Nat.min_eq_left (by omega), show i + wd.length - i = wd.length by omega]
  rfl
theorem words_H12 : True := by
  k_with "my:compareOp Eq ref ref" => ((k_here; (with_reducible show wpAny _ _ (compareOp CmpOp.Eq (Value.ref _) (Value.ref _)) _ _ _); (with_unfolding_all refine' eq_intsK ?k1ₓ ?k2ₓ ?k3ₓ ?k4ₓ ?k5ₓ ?_; (case k1ₓ => exact News.isList (by k_asm) (by k_mem)); (case k2ₓ => assumption); (case k3ₓ => exact News.isList (by k_asm) (by k_mem)); (case k4ₓ => assumption); (case k5ₓ => ktr_units); k_whole)))
  trivial
theorem and_t {p q : Prop} [Decidable p] [Decidable q] (h : p) : Value.bool (decide q) = Value.bool (decide p && decide q) := by rw [decide_eq_true h, Bool.true_and]
theorem and_f {p q : Prop} [Decidable p] [Decidable q] (h : ¬ p) : Value.bool (decide p) = Value.bool (decide p && decide q) := by rw [decide_eq_false h, Bool.false_and]
theorem krv_led {prog : Program} {w : World} {A : Around} {E : Value → Shared → Prop} {s : Shared} {h₀ : Heap} {L l : Addr} {m : Str → Option Value} {news : Led} {value slice : PySem.Expr} {vs : List Value} {ns : List Int} {c : Nat} {vk : Value} {ops : List Value} {Q : Value → Shared → Prop}
    (F : Fr h₀ L s.heap m) (N : News h₀ L s.heap news) (hm : (l, PySem.W.listOf vs.toArray c) ∈ news) (pk : IsPart vk (some (-1))) (hi : IntsAre vs ns) (hz : vs.length ≤ sizeLine)
    (h : ∀ D ws h', Fr h₀ L h' m → News h₀ L h' ((D, PySem.W.listOf (List.toArray ws) 0) :: news) → (∀ p ∈ news, p.1 < D) → IntsAre ws ns.reverse → Q (.ref D) { s with heap := h' })
    (hs : subscripted slice false (.ref l) (.ref s.heap.objs.size) = operate ops (getItem (.ref l) (.ref s.heap.objs.size))) (ht : ∀ r, letTemporaryGo value (.ref l) r = pure ()) :
    wpAny (model prog w) A (subscriptTail value slice (.ref l) (.ref s.heap.objs.size)) Q E { s with heap := s.heap.push { cls := .type "slice", data := .fields #[.none, .none, vk] } } :=
  krv_ints F N (News.isList N hm) pk hi (fun D ws h' F' N' l1 i _ => h D ws h' F' N' l1 i) hs ht (by simpa using hz)
theorem words_H13 : True := by
  k_with "my:subscriptTail Name Slice ref ref" => ((k_here; (with_reducible show wpAny _ _ (subscriptTail _ (PySem.Expr.Slice none none (some _) _) (Value.ref _) (Value.ref _)) _ _ _); k_dflt (refine' krv_led ?Fₓ ?Nₓ ?lₓ ?kₓ ?iₓ ?zₓ ?_ ?sₓ ?tₓ; (case Fₓ => k_asm); (case Nₓ => k_asm); (case lₓ => k_mem); (case kₓ => exact IsPart.int _ _); (case iₓ => assumption); (case zₓ => assumption); (case sₓ => with_unfolding_all rfl); (case tₓ => kmk_pure)); intro Dₓ wsₓ hₓ Fₓ Nₓ l1ₓ hIₓ; (try k_lt l1ₓ)))
  trivial
theorem pair_of {vs : List Value} (i : Nat) (v : Value) (h : Heap) (_ : i < vs.length) (hP : ∃ T vals, v = .ref T ∧ (∃ t x, vs[i]? = some x ∧ vals = #[.int (i : Nat) t, x]) ∧ IsTup h T vals) :
    ∃ T v₁ v₂, v = .ref T ∧ IsTup h T #[v₁, v₂] ∧ (∃ t, v₁ = .int (i : Nat) t) ∧ vs[i]? = some v₂ := by
  obtain ⟨T, _, rfl, ⟨t, x, hx, rfl⟩, hT⟩ := hP
  exact ⟨T, _, _, rfl, hT, ⟨t, rfl⟩, hx⟩
set_option maxHeartbeats 4000000 in
theorem holds_tel (w : World) (mean : ExcName → Option Value) (mg mb : Str → Option Value) (news : Led) (ixs st ix0 ix1 : Addr) (n0 n1 : Nat) (l0 b0 r0 l1 b1 r1 tx wd : List Int) (low other width : Int) (text word : Array UInt8) (t1 t2 t3 t4 t5 : Tok)
    (hix : (ixs, tupO [.ref ix0, .ref ix1] n0) ∈ news) (hst : (st, tupO [.int low t1, .int other t2, .int width t3] n1) ∈ news) (h0 : IdxAt news ix0 l0 b0 r0) (h1 : IdxAt news ix1 l1 b1 r1)
    (hl0 : r0.length = 7) (hl1 : r1.length = 7) (hx : KBw.bInts text = tx) (hw : KBw.bInts word = wd) (ht : tx.length = 6) (hw1 : 1 ≤ wd.length) (hw2 : wd.length ≤ 6) :
    Tel w mean mg mb 1 100 119 [.bytes text t4, .ref ixs, .ref st, .bytes word t5] [] news (fun r news' => news' = news ∧
      r = .bool (decide (pick (fun j => (j : Int)) (rankQ r0 low width) 7 = pick (fun j => (j : Int)) (spotQ tx wd) (7 - wd.length)) && decide ((pick (fun j => 6 - (wd.length : Int) - j) (rankQ r1 other width) 7).reverse = pick (fun j => (j : Int)) (spotQ tx wd) (7 - wd.length)))) := by
  w_top off
  unfold Tel
  k_fill
  intro dp un gd cn cs a ccd cl outer A₀ base h₀ L m s Q E B F X N T hk hdd hu hret
  obtain ⟨la, bg, rk, m1, m2, m3, m4, v1, v2, v3, q1, q2, i1, q3, i2, q4, i3⟩ := h0
  obtain ⟨la', bg', rk', m1', m2', m3', m4', v1', v2', v3', q1', q2', i1', q3', i2', q4', i3'⟩ := h1
  refine wpAny_call ?_
  k_dflt cell_enter
  refine wpAny_noRaise ?_
  refine wp_abs fun Q0 hQ0 => ?_
  k_steps
  rename Fr _ _ _ _ => F1
  rename News _ _ _ _ => N1
  rename IsRange _ _ _ _ _ _ _ _ => R1
  refine comp_range2 (n := 7 - wd.length) _ (σ := Unit) (fun _ => _) () (fun i _ ys => IntsAre ys (pick (fun j => (j : Int)) (spotQ tx wd) i)) (by rfl) F1 N1 R1 (by omega) (by omega) rfl (fun _ _ => rfl) (asg_plain (V := fun i v => ∃ t, v = .int (i : Nat) t) (by rfl) (by rfl) fun i v h _ hP => hP.2) .nil ?_ ?_
  · rintro s₂ I lI ⟨h2, tk2, rfl⟩
    refine turn_plain (by decide) ?_
    rintro i c ys C D oC m₂ v h tk E' hi hd hx913 hb hoC F2 ap hws hDC
    refine allObj1 fun o1 c1 N2 => ?_
    refine tst_abs fun P9 P8 hP9 hP8 => ?_
    refine goal_abs fun hG9 => ?_
    obtain ⟨t, rfl⟩ := hx913
    simp only [List.cons_append, List.nil_append] at N2
    refine hG9 ?_
    clear hG9
    show wpAny _ _ _ _ _ _
    k_steps
    all_goals (subst hP9; subst hP8)
    · exact cend_same () (by assumption) (by assumption) (fun p hp => hp) ap (pick_yes hd (by rw [← spot_is hw (by omega) (by assumption)]; assumption))
    · exact cend_same () (by assumption) (by assumption) (fun p hp => hp) ap (pick_no hd (by rw [← spot_is hw (by omega) (by assumption)]; simp_all))
  · rintro c ys h tk hd
    intro D h' tk' F2 N2 l2 _
    k_lt l2
    k_steps
    rename Fr _ _ _ _ => F1
    rename News _ _ _ _ => N1
    have e7 : v3.length = 7 := by rw [IntsAre.length i3, hl0]
    refine comp_enum2 _ (σ := Unit) (fun _ => _) () (fun i _ ys => IntsAre ys (pick (fun j => (j : Int)) (rankQ r0 low width) i)) (by rfl) F1 N1 (by k_mem) (fun _ _ _ _ => by k_mem) (by rw [e7, sizeLine_eq]; omega) rfl
      (asg_pairP (V := fun i v₁ v₂ => (∃ t, v₁ = .int (i : Nat) t) ∧ v3[i]? = some v₂) (by rfl) (by rfl) (by rfl) (by rfl) (by decide) pair_of) .nil ?_ ?_
    · rintro s₂ I lI ⟨h2, tk2, rfl⟩
      rintro i c' ys' C D' own h tk E' hi hd2 hx911 _ F2 ap hws _ hDC
      refine allObj2 fun o1 c1 o2 c2 N2 => ?_
      refine tst_abs fun P9 P8 hP9 hP8 => ?_
      refine goal_abs fun hG9 => ?_
      obtain ⟨oC, m₂, v₁, v, rfl, hoC, ⟨⟨t, rfl⟩, hv⟩, hb, hb2⟩ := hx911
      obtain ⟨t', rfl⟩ := IntsAre.int_at i3 _ _ hv
      simp only [List.cons_append, List.nil_append] at N2
      refine hG9 ?_
      clear hG9
      rw [cellsFrom_none _ _ _ (by decide)]
      show wpAny _ _ _ _ _ _
      k_steps
      all_goals (subst hP9; subst hP8)
      · exact cend_same () (by assumption) (by assumption) (fun p hp => hp) ap (pick_yes hd2 (by unfold rankQ; simp only [decide_eq_true_eq]; omega))
      · exact cend_same () (by assumption) (by assumption) (fun p hp => hp) ap (pick_no hd2 (by unfold rankQ; simp only [decide_eq_true_eq]; omega))
      · exact cend_same () (by assumption) (by assumption) (fun p hp => hp) ap (pick_no hd2 (by unfold rankQ; simp only [decide_eq_true_eq]; omega))
    · rintro c' ys' h tk hd2
      intro D' h' tk' F2 N2 l2 _
      rw [e7] at hd2
      k_lt l2
      k_steps
      rename Fr _ _ _ _ => F1
      rename News _ _ _ _ => N1
      have e7' : v3'.length = 7 := by rw [IntsAre.length i3', hl1]
      refine comp_enum2 _ (σ := Unit) (fun _ => _) () (fun i _ ys => IntsAre ys (pick (fun j => 6 - (wd.length : Int) - (j : Int)) (rankQ r1 other width) i)) (by rfl) F1 N1 (by k_mem) (fun _ _ _ _ => by k_mem) (by rw [e7', sizeLine_eq]; omega) rfl
        (asg_pairP (V := fun i v₁ v₂ => (∃ t, v₁ = .int (i : Nat) t) ∧ v3'[i]? = some v₂) (by rfl) (by rfl) (by rfl) (by rfl) (by decide) pair_of) .nil ?_ ?_
      · rintro s₂ I lI ⟨h2, tk2, rfl⟩
        rintro i c'' ys'' C D'' own h tk E' hi hd3 hx911 _ F2 ap hws _ hDC
        refine allObj2 fun o1 c1 o2 c2 N2 => ?_
        refine tst_abs fun P9 P8 hP9 hP8 => ?_
        refine goal_abs fun hG9 => ?_
        obtain ⟨oC, m₂, v₁, v, rfl, hoC, ⟨⟨t, rfl⟩, hv⟩, hb, hb2⟩ := hx911
        obtain ⟨t', rfl⟩ := IntsAre.int_at i3' _ _ hv
        simp only [List.cons_append, List.nil_append] at N2
        refine hG9 ?_
        clear hG9
        rw [cellsFrom_none _ _ _ (by decide)]
        show wpAny _ _ _ _ _ _
        k_steps
        all_goals (subst hP9; subst hP8)
        · exact cend_same () (by assumption) (by assumption) (fun p hp => hp) ap (pick_yes hd3 (by unfold rankQ; simp only [decide_eq_true_eq]; omega))
        · exact cend_same () (by assumption) (by assumption) (fun p hp => hp) ap (pick_no hd3 (by unfold rankQ; simp only [decide_eq_true_eq]; omega))
        · exact cend_same () (by assumption) (by assumption) (fun p hp => hp) ap (pick_no hd3 (by unfold rankQ; simp only [decide_eq_true_eq]; omega))
      · rintro c'' ys'' h tk hd3
        intro D'' h' tk' F2 N2 l2 _
        rw [e7'] at hd3
        have z3 : ys''.length ≤ sizeLine := by rw [IntsAre.length hd3, sizeLine_eq]; have := pick_len (fun j => 6 - (wd.length : Int) - (j : Int)) (rankQ r1 other width) 7; omega
        k_lt l2
        subst hQ0
        k_steps
        · rename News h₀ L _ _ => kN9
          exact hret _ news _ _ (by assumption) (fun p hp => kN9 p (by k_mem)) ⟨rfl, and_t (by assumption)⟩
        · rename News h₀ L _ _ => kN9
          exact hret _ news _ _ (by assumption) (fun p hp => kN9 p (by k_mem)) ⟨rfl, and_f (by assumption)⟩
open AutoSeq1 (wpAny_loadPart')
/-! T0 -/
namespace Fb
theorem bytes_len : typeLookup (.type "bytes") "__len__" = pure (some (.builtin "bytes.__len__")) := by rw [typeLookup_type, builtinLookup_eq_fast]; kernel_rfl
end Fb
/-- an octet's place -/
def OctAt (b : Array UInt8) (i : Nat) (v : Value) : Prop := ∃ c u, b[i]? = some c ∧ v = .int (c.toNat : Int) u
section
variable {prog : Program} {w : World} {A : Around} {E : Value → Shared → Prop} {s : Shared}
theorem extend_bytes {R : Result → Shared → Prop} (hh : A.handled = none) (b : Array UInt8) (t : Tok) (S : Addr) (res : Value) (c₀ : Nat) (hS : s.heap.get? S = some { cls := .type "list", data := .seq #[] c₀ })
    (hR : ∀ h' tk acc' c', (∀ a o, a ≠ S → s.heap.get? a = some o → h'.get? a = some o) → h'.get? S = some { cls := .type "list", dict := none, data := .seq acc' c', slots := #[] } →
      ItemsOf (OctAt b) acc' b.size → R (.ok (.ret res)) { s with heap := h', toks := tk }) (hn : b.size ≤ sizeLine) :
    wpAny (model prog w) A.in1 (Builtin.List.listExtendWith (.ref S) (.bytes b t) res)
      (fun fin s' => match fin with | .done f => R (.ok f) s' | .again c' => c'.quiet = true ∧ codeAny (model prog w) A c' R s') (fun e s' => R (.error e) s') s := by
  have hSI : S ≠ s.heap.objs.size := Nat.ne_of_lt (Heap.lt_size hS)
  have hSf : S ∉ [s.heap.objs.size] := fun hm => hSI (List.mem_singleton.mp hm)
  unfold Builtin.List.listExtendWith
  refine wpAny_bind (wpAny_typeOf (T := "bytes") (v := .bytes b t) rfl ?_)
  have h1 : Builtin.List.listSameRef (.ref S) (.bytes b t) = false := rfl
  have h2 : (Value.type "bytes" == Value.type "list") = false := by decide
  have h3 : (Value.type "bytes" == Value.type "tuple") = false := by decide
  simp only [h1, h2, h3, Bool.or_false, Bool.false_eq_true, if_false]
  refine wpAny_bind (KBw.pyIter_bytes ?_)
  refine wpAny_bind (wpAny_holding ?_)
  unfold Builtin.List.listLengthHint
  refine wpAny_bind (wpAny_specialOf (T := "bytes") (v := .bytes b t) rfl Fb.bytes_len ?_)
  wp_delta
  refine wpAny_bind (wpAny_isInstance (T := "bytes") (v := .bytes b t) (b := true) rfl (by rw [isSubtype_type]; kernel_rfl) ?_)
  show wpAny _ _ (typeOf (Value.bytes b t) >>= _) _ _ _
  refine wpAny_bind (wpAny_typeOf (T := "bytes") (v := .bytes b t) rfl ?_)
  refine wpAny_pure ?_
  rw [if_neg (by decide)]
  refine wpAny_pure ⟨plainId_quiet F.plain_extend_loop _, codeAny_extend_loopS (KBw.walks (A := A.in1) hh s.heap.objs.size b t).toS hn _ hSf _ b.size 0 _ _ _ rfl (Nat.zero_le _) ⟨_, Heap.get?_push_size _ rfl, rfl, rfl⟩ (Heap.get?_push_of_some _ hS) (ItemsOf.nil _) fun s' acc' c' hm hS' hacc => ?_⟩
  rw [Moved.eq_with hm]
  refine hR s'.heap s'.toks acc' c' (fun b ob hb e => hm.heap b ob (fun hmem => ?_) (Heap.get?_push_of_some _ e)) hS' hacc
  rcases List.mem_cons.mp hmem with e' | hmem
  · exact hb e'
  · exact absurd (Heap.lt_size e) (by rw [List.mem_singleton.mp hmem]; exact Nat.lt_irrefl _)

theorem collect_bytes {Q : List Value → Shared → Prop} (hh : A.handled = none) (b : Array UInt8) (t : Tok)
    (hQ : ∀ h' tk acc, (∀ a o, s.heap.get? a = some o → h'.get? a = some o) → ItemsOf (OctAt b) acc b.size → Q acc.toList { s with heap := h', toks := tk }) (hn : b.size ≤ sizeLine) :
    wpAny (model prog w) A (collect (.bytes b t)) Q E s := by
  unfold collect
  refine wpAny_bind (wpAny_runValue (codeAny_builtin F.entry_proto_collect ?_))
  rw [Around.under_plainId F.plain_proto_collect _]
  show wpAny _ A.in1 (newList [] >>= fun l => again (.builtin "list.__iadd__" ⟨[l, .bytes b t], []⟩)) _ _ s
  refine wpAny_bind (wpAny_newObj_type ?_)
  refine wpAny_pure ⟨plainId_quiet F.plain_list_iadd _, codeAny_builtin F.entry_list_iadd ?_⟩
  rw [Around.under_plainId F.plain_list_iadd _]
  show wpAny _ A.in1 (Builtin.List.listExtendWith (.ref s.heap.objs.size) (.bytes b t) (.ref s.heap.objs.size)) _ _ _
  refine wpAny_mono (extend_bytes (R := fun r s' => ∃ h' tk acc' c', r = .ok (.ret (.ref s.heap.objs.size)) ∧ s' = { s with heap := h', toks := tk } ∧ (∀ a o, s.heap.get? a = some o → h'.get? a = some o) ∧ h'.get? s.heap.objs.size = some { cls := .type "list", dict := none, data := .seq acc' c', slots := #[] } ∧ ItemsOf (OctAt b) acc' b.size)
    (s := { s with heap := s.heap.push { cls := .type "list", data := .seq ([] : List Value).toArray } }) hh b t _ _ 0 (Heap.get?_push_size _ rfl)
    (fun h' tk acc' c' hk hS' hacc => ⟨h', tk, acc', c', rfl, rfl, fun a o e => hk a o (Nat.ne_of_lt (Heap.lt_size e)) (Heap.get?_push_of_some _ e), hS', hacc⟩) hn) (fun f s' h => ?_) fun e s' h => ?_
  · cases f with
    | done f =>
      obtain ⟨h', tk, acc', c', e, rfl, hk, hS', hacc⟩ := h
      cases e
      show wpAny _ A (load s.heap.objs.size >>= _) _ _ _
      exact wpAny_bind (wpAny_load hS' (wpAny_pure (hQ h' tk acc' hk hacc)))
    | again c' =>
      refine ⟨h.1, codeAny_mono h.2 fun r s'' hr => ?_⟩
      obtain ⟨h', tk, acc', c', rfl, rfl, hk, hS', hacc⟩ := hr
      show wpAny _ A (load s.heap.objs.size >>= _) _ _ _
      exact wpAny_bind (wpAny_load hS' (wpAny_pure (hQ h' tk acc' hk hacc)))
  · obtain ⟨h', tk, acc', c', e, _⟩ := h
    cases e

theorem meets_tuple_bytes (b : Array UInt8) (t : Tok) (hsz : b.size ≤ sizeLine) :
    Meets (Builtin.«tuple.__new__» ⟨[.type "tuple", .bytes b t], []⟩)
      (fun A R s => A.handled = none ∧ ∀ (h' : Heap) (tk : Nat) (acc : Array Value), (∀ b o, s.heap.get? b = some o → h'.get? b = some o) → ItemsOf (OctAt b) acc b.size →
        R (.ok (.ret (.ref h'.objs.size))) { s with heap := h'.push { cls := .type "tuple", data := .seq acc }, toks := tk }) :=
  .of_wp fun prog w A R s h => by
    obtain ⟨hh, h⟩ := h
    have hsub := sub_tuple_self
    have hinit := init_tuple_lookup
    have hmh := madeHere_tuple
    have hT : s.TypeIs (.bytes b t) "bytes" := rfl
    have hh1 : A.in1.handled = none := hh
    wp_walk using wpAny_typeOf hT, collect_bytes (hn := hsz) hh1 b t
    intro h' tk acc hk hacc
    show wpAny _ _ (Builtin.Tuple.tupleExact acc.toList.toArray >>= fun v => ret v) _ _ _
    unfold Builtin.Tuple.tupleExact
    refine wpAny_bind (wpAny_newObj_type ?_ (show acc.toList.toArray.size ≤ sizeLine by simp only [Array.toArray_toList]; rw [hacc.1]; exact hsz))
    refine wpAny_pure ⟨_, rfl, ?_⟩
    have e : acc.toList.toArray = acc := by simp
    rw [e]
    exact h h' tk acc hk hacc
theorem octs_ints {b : Array UInt8} {acc : Array Value} (h : ItemsOf (OctAt b) acc b.size) : IntsAre acc.toList (KBw.bInts b) := by
  obtain ⟨h1, h2⟩ := h
  have key : ∀ (l : List UInt8) (vs : List Value), vs.length = l.length → (∀ (j : Nat) (v : Value), vs[j]? = some v → ∃ (c : UInt8) (u : Tok), l[j]? = some c ∧ v = Value.int (c.toNat : Int) u) → IntsAre vs (l.map fun c => (c.toNat : Int)) := by
    intro l
    induction l with
    | nil =>
      intro vs hl _
      cases vs with
      | nil => exact .nil
      | cons _ _ => cases hl
    | cons c l ih =>
      intro vs hl hv
      cases vs with
      | nil => cases hl
      | cons v vs =>
        obtain ⟨c', u, hc, rfl⟩ := hv 0 v rfl
        obtain rfl := Option.some.inj hc
        exact .cons _ _ (ih vs (by simpa using hl) fun j v hj => hv (j + 1) v (by simpa using hj))
  refine key b.toList acc.toList (by simpa using h1) fun j v hj => ?_
  obtain ⟨c, u, hc, e⟩ := h2 j v (by simpa using hj)
  exact ⟨c, u, by simpa using hc, e⟩
variable {h₀ : Heap} {L : Addr} {m : Str → Option Value} {news : Led}
theorem tuple_bytes {b : Array UInt8} {t : Tok} {ks : List Int} {Q : Value → Shared → Prop} (hh : A.handled = none) (F : Fr h₀ L s.heap m) (N : News h₀ L s.heap news) (hk : KBw.bInts b = ks) (hz : ks.length ≤ 1000)
    (h : ∀ D h' tk ys, Fr h₀ L h' m → News h₀ L h' ((D, tupO ys 0) :: news) → (∀ p ∈ news, p.1 < D) → IntsAre ys ks → Q (.ref D) { s with heap := h', toks := tk }) : wpAny (model prog w) A (call (.type "tuple") [.bytes b t]) Q E s := by
  have hsz : b.size ≤ sizeLine := by
    rw [← hk, KBw.ints_length] at hz
    exact Nat.le_trans hz (by rw [sizeLine_eq]; omega)
  refine callType_new PySem.F.called_tuple (by decide) (PySem.F.typeCall_tuple_1 _) (PySem.F.newCall_tuple_1 _) (fun obj => PySem.F.args_object_init_2 obj _) PySem.F.entry_tuple_new
    (meets_tuple_bytes b t hsz) ⟨hh, fun h' tk acc hkp hacc => ⟨⟨_, Heap.get?_push_size _ rfl, rfl⟩, ?_⟩⟩
  have F' : Fr h₀ L h' m := F.keeps hkp
  have hL : L < h'.objs.size := F'.ns.lt
  have e : ({ cls := .type "tuple", data := .seq acc } : Obj) = tupO acc.toList 0 := by simp [tupO]
  refine h _ _ tk acc.toList (F'.push _) (fun p hp => ?_) (fun p hp => Heap.lt_size (hkp _ _ (N p hp).1)) (hk ▸ octs_ints hacc)
  rcases List.mem_cons.mp hp with rfl | hp
  · exact ⟨e ▸ Heap.get?_push_size _ rfl, Nat.ne_of_gt hL, Heap.get?_none_of_le (Nat.le_trans F'.above (Nat.le_of_lt hL))⟩
  · exact ⟨Heap.get?_push_of_some _ (hkp _ _ (N p hp).1), (N p hp).2⟩

theorem list_init_bytes {R : Result → Shared → Prop} (hh : A.handled = none) (b : Array UInt8) (t : Tok) (S : Addr) (hS : s.heap.get? S = some { cls := .type "list", data := .seq #[] })
    (hR : ∀ h' tk acc' c', (∀ a o, a ≠ S → s.heap.get? a = some o → h'.get? a = some o) → h'.get? S = some { cls := .type "list", dict := none, data := .seq acc' c', slots := #[] } →
      ItemsOf (OctAt b) acc' b.size → R (.ok (.ret .none)) { s with heap := h', toks := tk }) (hn : b.size ≤ sizeLine) :
    wpAny (model prog w) A.in1 (Builtin.«list.__init__» ⟨[.ref S, .bytes b t], []⟩)
      (fun fin s' => match fin with | .done f => R (.ok f) s' | .again c' => c'.quiet = true ∧ codeAny (model prog w) A c' R s') (fun e s' => R (.error e) s') s := by
  show wpAny _ _ (do let old ← Builtin.List.listItems (.ref S); Builtin.List.listUpdate (.ref S) (fun _ => #[]); letGo old.toList.reverse; Builtin.List.listExtendWith (.ref S) (.bytes b t) .none) _ _ s
  refine wpAny_bind ?_
  unfold Builtin.List.listItems
  refine wpAny_bind (wpAny_seqItems hS rfl (wpAny_pure ?_))
  show wpAny _ _ (updateSeq S (fun _ => #[]) >>= fun _ => letGo (#[] : Array Value).toList.reverse >>= fun _ => Builtin.List.listExtendWith (.ref S) (.bytes b t) .none) _ _ s
  refine wpAny_bind (wpAny_updateSeq hS rfl ?_)
  have hS₂ := Heap.get?_update_self (Obj.mapSeq (fun _ => (#[] : Array Value))) hS rfl
  have oth : ∀ b o, b ≠ S → s.heap.get? b = some o → (s.heap.update S (Obj.mapSeq (fun _ => (#[] : Array Value)))).get? b = some o :=
    fun b o hb e => (Heap.get?_update_other _ _ (Ne.symm hb)).trans e
  refine wpAny_bind (wpAny_letGo ?_)
  refine extend_bytes (hn := hn) hh b t S .none _ hS₂ fun h' tk acc' c' hk hS' hacc => ?_
  exact hR h' tk acc' c' (fun b o hb e => hk b o hb (oth b o hb e)) hS' hacc
theorem list_bytes {b : Array UInt8} {t : Tok} {ks : List Int} {Q : Value → Shared → Prop} (hh : A.handled = none) (F : Fr h₀ L s.heap m) (N : News h₀ L s.heap news) (hk : KBw.bInts b = ks) (hz : ks.length ≤ 1000)
    (h : ∀ D h' tk ys c, Fr h₀ L h' m → News h₀ L h' ((D, PySem.W.listOf (List.toArray ys) c) :: news) → (∀ p ∈ news, p.1 < D) → IntsAre ys ks → Q (.ref D) { s with heap := h', toks := tk }) : wpAny (model prog w) A (call (.type "list") [.bytes b t]) Q E s := by
  have hsz : b.size ≤ sizeLine := by
    rw [← hk, KBw.ints_length] at hz
    exact Nat.le_trans hz (by rw [sizeLine_eq]; omega)
  refine callType_codes (Q₁ := fun obj s₁ => obj = .ref s.heap.objs.size ∧ s₁ = { s with heap := s.heap.push { cls := .type "list", data := .seq #[] } }) PySem.F.called_list (PySem.F.typeCall_list_1 _) PySem.F.entry_list_init
    (code_list_new _ ⟨rfl, rfl⟩) fun obj s₁ h₁ => ?_
  obtain ⟨rfl, rfl⟩ := h₁
  have hS : (s.heap.push { cls := .type "list", data := .seq #[] }).get? s.heap.objs.size = some { cls := .type "list", data := .seq #[] } := Heap.get?_push_size _ rfl
  refine ⟨⟨_, hS, rfl⟩, PySem.F.args_list_init_2 _ _, list_init_bytes (A := A.in1) (hn := hsz) hh b t _ hS fun h' tk acc' c' hkp hS' hacc => ⟨rfl, ?_⟩⟩
  have up : ∀ b o, s.heap.get? b = some o → h'.get? b = some o := fun b o e => hkp b o (Nat.ne_of_lt (Heap.lt_size e)) (Heap.get?_push_of_some _ e)
  refine h _ h' tk acc'.toList c' (F.keeps up) (fun p hp => ?_) (fun p hp => Heap.lt_size (N p hp).1) (hk ▸ octs_ints hacc)
  rcases List.mem_cons.mp hp with rfl | hp
  · exact ⟨by rw [Array.toArray_toList]; exact hS', Nat.ne_of_gt F.ns.lt, Heap.get?_none_of_le (Nat.le_trans F.above (Nat.le_of_lt F.ns.lt))⟩
  · exact ⟨up _ _ (N p hp).1, (N p hp).2⟩
end
theorem len_cut (l : List Int) (a b n : Nat) (h : l.length ≤ n) : (List.take a (List.drop b l)).length ≤ n := Nat.le_trans (List.length_take_le' a _) (Nat.le_trans (Nat.le_of_eq List.length_drop) (Nat.le_trans (Nat.sub_le _ _) h))
theorem words_T01 : True := by
  k_with "my:call type:tuple" => ((k_here; (with_reducible show wpAny _ _ (call (Value.type _) [Value.bytes _ _]) _ _ _); k_dflt (refine' tuple_bytes ?hhₓ ?Fₓ ?Nₓ ?kₓ ?zₓ ?_; (case hhₓ => rfl); (case Fₓ => k_asm); (case Nₓ => k_asm); (case kₓ => assumption); (case zₓ => first | exact len_cut _ _ _ _ (by omega) | (simp only [List.length_take, List.length_drop]; omega))); intro Dₓ hₓ tkₓ ysₓ Fₓ Nₓ l1ₓ hIₓ; (try k_lt l1ₓ)))
  k_with "my:call type:list" => ((k_here; (with_reducible show wpAny _ _ (call (Value.type _) [Value.bytes _ _]) _ _ _); k_dflt (refine' list_bytes ?hhₓ ?Fₓ ?Nₓ ?kₓ ?zₓ ?_; (case hhₓ => rfl); (case Fₓ => k_asm); (case Nₓ => k_asm); (case kₓ => assumption); (case zₓ => first | exact len_cut _ _ _ _ (by omega) | (simp only [List.length_take, List.length_drop]; omega))); intro Dₓ hₓ tkₓ ysₓ cₓ Fₓ Nₓ l1ₓ hIₓ; (try k_lt l1ₓ)))
  trivial
/-! T1 -/
namespace Ft
theorem noFill_mul : fillsNumberSlot (.type "tuple") "mul" = pure false :=
  PySem.fillsNumberSlot_seq (id := "tuple.__mul__") (r := some (.builtin "tuple.__rmul__")) F.slot_tuple_mul.lookup (by decide +kernel) F.slot_tuple_rmul.lookup (by decide +kernel)
theorem repeats : seqRepeat? (.type "tuple") = pure (some (.builtin "tuple.__mul__")) := by
  unfold seqRepeat?
  rw [PySem.seqSlot_of (T := "tuple") (name := "__mul__") (id := "tuple.__mul__") F.slot_tuple_mul.lookup (by decide +kernel), PySem.seqSlot_of (T := "tuple") (name := "__rmul__") (id := "tuple.__rmul__") F.slot_tuple_rmul.lookup (by decide +kernel)]
  rfl
theorem declines (a : Int) (t : Tok) (l : Addr) (items : Array Value) (n : Nat) :
    Meets (Builtin.«int.__rmul__» ⟨[.int a t, .ref l], []⟩) (fun _ R s => s.heap.get? l = some { cls := .type "tuple", dict := none, data := .seq items n, slots := #[] } ∧ R (.ok (.ret Value.notImplemented)) s) :=
  .of_wp fun prog w A R s h => by obtain ⟨hp, g, d, tk, os⟩ := s; obtain ⟨hl, h⟩ := h; wp_walk; exact ⟨_, rfl, h⟩
theorem mul1 (l : Addr) (v : Value) (n : Nat) (u : Tok) :
    Meets (Builtin.«tuple.__mul__» ⟨[.ref l, .int 1 u], []⟩) (fun _ R s => s.heap.get? l = some { cls := .type "tuple", dict := none, data := .seq #[v] n, slots := #[] } ∧ R (.ok (.ret (.ref l))) s) :=
  .of_wp fun prog w A R s h => by
    obtain ⟨hp, g, d, tk, os⟩ := s; obtain ⟨hl, h⟩ := h
    wp_walk
    exact ⟨_, rfl, h⟩
theorem mul0 (l : Addr) (v : Value) (n : Nat) (u : Tok) :
    Meets (Builtin.«tuple.__mul__» ⟨[.ref l, .int 0 u], []⟩) (fun _ R s => s.heap.get? l = some { cls := .type "tuple", dict := none, data := .seq #[v] n, slots := #[] } ∧ R (.ok (.ret (.ref s.heap.objs.size))) { s with heap := s.heap.push { cls := .type "tuple", data := .seq #[] } }) :=
  .of_wp fun prog w A R s h => by
    obtain ⟨hp, g, d, tk, os⟩ := s; obtain ⟨hl, h⟩ := h
    wp_walk
    exact ⟨_, rfl, h⟩
theorem muln (l : Addr) (v : Value) (n : Nat) (x : Int) (u : Tok) (h1 : ¬ (x < -(2 ^ 63) || x ≥ 2 ^ 63) = true) (h2 : ¬ ((#[v] : Array Value).isEmpty || x == 1) = true) (h3 : ¬ (x ≤ 0 || (#[v] : Array Value).isEmpty) = true) (h4 : ¬ ((#[v] : Array Value).size * x > (2 ^ 63 - 1) / 8)) (h5 : ¬ Builtin.Tuple.tupleTooMany ((#[v] : Array Value).size * x) = true)
    (h6 : ¬ ((List.replicate x.toNat #[v]).foldl (fun x1 x2 => x1 ++ x2) #[]).size > sizeLine) :
    Meets (Builtin.«tuple.__mul__» ⟨[.ref l, .int x u], []⟩) (fun _ R s => s.heap.get? l = some { cls := .type "tuple", dict := none, data := .seq #[v] n, slots := #[] } ∧ R (.ok (.ret (.ref s.heap.objs.size))) { s with heap := s.heap.push { cls := .type "tuple", data := .seq ((List.replicate x.toNat #[v]).foldl (· ++ ·) #[]) } }) :=
  .of_wp fun prog w A R s h => by
    obtain ⟨hp, g, d, tk, os⟩ := s; obtain ⟨hl, h⟩ := h
    wp_walk
    refine wpAny_ite_false (decide_eq_false h1) ?_
    wp_walk
    refine wpAny_ite_false (decide_eq_false h2) ?_
    wp_walk
    refine wpAny_ite_false (decide_eq_false h3) ?_
    wp_walk
    refine wpAny_ite_false (decide_eq_false h4) ?_
    wp_walk
    refine wpAny_ite_false (decide_eq_false h5) ?_
    wp_walk
    exact ⟨_, rfl, h⟩
end Ft
theorem rep_one (v : Value) (k : Nat) : (List.replicate k #[v]).foldl (fun x1 x2 => x1 ++ x2) #[] = (List.replicate k v).toArray := by
  have e := listMul_foldl_if #[v] k
  rw [if_neg (by simp)] at e
  rw [e]
  congr 1
  induction k with
  | zero => rfl
  | succ k ih => rw [List.replicate_succ, List.replicate_succ, List.flatten_cons, ih (listMul_foldl_if #[v] k)]; rfl
theorem ints_replicate (t : Tok) : ∀ k : Nat, IntsAre (List.replicate k (Value.int 0 t)) (List.replicate k 0)
  | 0 => .nil
  | k + 1 => .cons _ _ (ints_replicate t k)
section
variable {prog : Program} {w : World} {A : Around} {E : Value → Shared → Prop} {s : Shared} {h₀ : Heap} {L : Addr} {m : Str → Option Value} {news : Led}
/-- (0,) * k -/
theorem mul_zeros {l : Addr} {t u : Tok} {n k : Nat} {Q : Value → Shared → Prop} (F : Fr h₀ L s.heap m) (N : News h₀ L s.heap news) (hm : (l, tupO [.int 0 t] n) ∈ news) (hk : k ≤ 100)
    (h : ∀ R h' ex zs c, Fr h₀ L h' m → News h₀ L h' (ex ++ news) → (R, tupO zs c) ∈ ex ++ news → IntsAre zs (List.replicate k 0) → (∀ q ∈ ex, ∀ p ∈ news, p.1 < q.1) → (R = l ∨ ∀ p ∈ news, p.1 < R) → Q (.ref R) { s with heap := h' }) :
    wpAny (model prog w) A (binaryOp .Mult (.ref l) (.int (k : Int) u)) Q E s := by
  have ho := (N _ hm).1
  refine wpAny_binaryOp_repeat_ref (T := "tuple") (U := "int") (by decide) ⟨_, ho, rfl⟩ (fun s' => typeIs_int s' _ u) Ft.noFill_mul PySem.F.fills_int_mul PySem.F.slot_int_rmul Ft.repeats PySem.F.slot_int_index.lookup
    (call_meets PySem.F.slot_int_rmul (typeIs_int s _ u) PySem.F.entry_int_rmul (PySem.F.args_int_rmul_2 _ _) (Ft.declines _ u l _ n) ⟨ho, rfl, ⟨_, ho, rfl⟩, ?_⟩)
  have lt : ∀ p ∈ news, p.1 < s.heap.objs.size := fun p hp => Heap.lt_size (N p hp).1
  rcases Nat.lt_trichotomy k 1 with hc | hc | hc
  · obtain rfl : k = 0 := by omega
    exact call_meets PySem.F.slot_tuple_mul ⟨_, ho, rfl⟩ PySem.F.entry_tuple_mul (PySem.F.args_tuple_mul_2 _ _) (Ft.mul0 l _ n u)
      ⟨ho, h _ _ [(s.heap.objs.size, tupO [] 0)] [] 0 (F.push _) (News.push F N _) (.head _) .nil (fun q hq p hp => by cases List.mem_singleton.mp hq; exact lt p hp) (.inr lt)⟩
  · subst hc
    exact call_meets PySem.F.slot_tuple_mul ⟨_, ho, rfl⟩ PySem.F.entry_tuple_mul (PySem.F.args_tuple_mul_2 _ _) (Ft.mul1 l _ n u)
      ⟨ho, h _ _ [] _ _ F N hm (.cons _ _ .nil) (fun q hq => by cases hq) (.inl rfl)⟩
  · refine call_meets PySem.F.slot_tuple_mul ⟨_, ho, rfl⟩ PySem.F.entry_tuple_mul (PySem.F.args_tuple_mul_2 _ _) (Ft.muln l _ n k u ?_ ?_ ?_ ?_ ?_ ?_) ⟨ho, ?_⟩
    · simp; omega
    · simp; omega
    · simp; omega
    · simp; omega
    · simp [Builtin.Tuple.tupleTooMany, sizeLine]; omega
    · rw [rep_one]; simp [sizeLine]; omega
    · rw [Int.toNat_natCast, rep_one]
      exact h _ _ [(s.heap.objs.size, tupO (List.replicate k (.int 0 t)) 0)] _ 0 (F.push _) (News.push F N _) (.head _) (ints_replicate t k) (fun q hq p hp => by cases List.mem_singleton.mp hq; exact lt p hp) (.inr lt)
/-- tuple + tuple -/
theorem add_tups {t b : Addr} {vs ws : List Value} {ns ms : List Int} {n c : Nat} {Q : Value → Shared → Prop} (F : Fr h₀ L s.heap m) (N : News h₀ L s.heap news) (ht : (t, tupO vs n) ∈ news) (hb : (b, tupO ws c) ∈ news) (hv : IntsAre vs ns) (hw : IntsAre ws ms) (hsz : ns.length + ms.length ≤ 1000)
    (h : ∀ R h' ex zs c, Fr h₀ L h' m → News h₀ L h' (ex ++ news) → (R, tupO zs c) ∈ ex ++ news → IntsAre zs (ns ++ ms) → (R = t ∨ R = b ∨ ∀ p ∈ news, p.1 < R) → Q (.ref R) { s with heap := h' }) :
    wpAny (model prog w) A (binaryOp .Add (.ref t) (.ref b)) Q E s := by
  have lt : ∀ p ∈ news, p.1 < s.heap.objs.size := fun p hp => Heap.lt_size (N p hp).1
  have e1 := hv.length
  have e2 := hw.length
  refine add_tuples F N ⟨_, (N _ ht).1, rfl, n, rfl⟩ ⟨_, (N _ hb).1, rfl, c, rfl⟩ (fun e => ?_) (fun _ e => ?_) (fun _ _ h' F' N' => ?_) (by rw [sizeLine_eq]; omega)
  · subst e
    cases hv
    exact h b _ [] ws c F N hb hw (.inr (.inl rfl))
  · subst e
    cases hw
    exact h t _ [] vs n F N ht (by simpa using hv) (.inl rfl)
  · exact h _ _ [(s.heap.objs.size, tupO (vs ++ ws) 0)] _ 0 F' N' (.head _) (hv.append hw) (.inr (.inr lt))
end
theorem words_T11 : True := by
  k_with "my:binaryOp Mult ref int" => ((k_here; (with_reducible show wpAny _ _ (binaryOp Operator.Mult (Value.ref _) (Value.int _ _)) _ _ _); k_dflt (refine' mul_zeros ?Fₓ ?Nₓ ?kₓ ?zₓ ?_; (case Fₓ => k_asm); (case Nₓ => k_asm); (case kₓ => k_mem); (case zₓ => omega)); intro Rₓ hₓ exₓ zsₓ cₓ Fₓ Nₓ hmₓ hIₓ hxₓ hRₓ))
  k_with "my:binaryOp Add ref ref" => ((k_here; (with_reducible show wpAny _ _ (binaryOp Operator.Add (Value.ref _) (Value.ref _)) _ _ _); k_dflt (refine' add_tups ?Fₓ ?Nₓ ?kₓ ?zₓ ?vₓ ?wₓ ?szₓ ?_; (case Fₓ => k_asm); (case Nₓ => k_asm); (case zₓ => assumption); (case wₓ => assumption); (case kₓ => (refine List.mem_append_right _ ?_; k_mem)); (case vₓ => assumption); (case szₓ => first | exact Nat.le_trans (Nat.add_le_add (len_cut _ _ _ 6 (by omega)) (Nat.le_of_eq List.length_replicate)) (by omega) | (simp only [List.length_take, List.length_drop, List.length_replicate]; omega))); intro R2ₓ h2ₓ ex2ₓ zs2ₓ c2ₓ F2ₓ N2ₓ hm2ₓ hI2ₓ hR2ₓ))
  trivial
/-! R0 -/
section
variable {prog : Program} {w : World} {A : Around} {E : Value → Shared → Prop} {s : Shared} {env : Env} {h₀ : Heap} {target : Expr} {body : List Stmt} {Q : Flow → Shared → Prop}
/-- the items of range(n) from the i-th on -/
def rgI (n i : Nat) : List Itm := ((List.range n).drop i).map fun k => Itm.tok (Value.int (k : Nat))
theorem rgI_len (n : Nat) : (rgI n 0).length = n := by simp [rgI]
theorem rgI_get {n i : Nat} (h : i < n) : (rgI n 0)[i]? = some (Itm.tok (Value.int (i : Nat))) := by simp [rgI, h]
theorem rgI_step {n i : Nat} {a : Itm} {r : List Itm} (h : a :: r = rgI n i) : i < n ∧ a = Itm.tok (Value.int (i : Nat)) ∧ r = rgI n (i + 1) := by
  unfold rgI at *
  have hi : i < n := by
    rcases Nat.lt_or_ge i n with hi | hi
    · exact hi
    · rw [List.drop_eq_nil_of_le (by simpa using hi)] at h; cases h
  rw [List.drop_eq_getElem_cons (by simpa using hi)] at h
  simp only [List.map_cons, List.getElem_range] at h
  exact ⟨hi, (List.cons.inj h).1, (List.cons.inj h).2⟩
theorem rgI_nil {n i : Nat} (h : [] = rgI n i) (hi : i ≤ n) : i = n := by
  unfold rgI at h
  have := congrArg List.length h
  simp at this
  omega
theorem iter_rangeItems {r : Addr} {b : Int} {t₀ u₀ v₀ : Tok} {n : Nat} {m₀ : Str → Option Value} {news : Led}
    (hh : A.handled = none) (F : Fr h₀ env.locals s.heap m₀) (N : News h₀ env.locals s.heap news) (hr : IsRange s.heap r 0 b 1 t₀ u₀ v₀) (hb : b = (n : Nat)) (hsz : n ≤ 1000) (hgo : ∀ it v, letOwnedTupleGo target it v = pure ())
    (rest₀ : ∀ I : Addr, (∀ p ∈ news, p.1 < I) → ItemsRest prog w A E h₀ env target body Q s [(I, "range_iterator")] [] (rgI n 0) m₀ news) :
    wpAny (model prog w) A (pyIter (.ref r)) (fun it s₂ => TurnsAt prog w A h₀ env target body Q E it s₂) E s := by
  subst hb
  refine wpAny_pyIter_range hr (small_nat hsz) ?_
  have W : Walks prog w A s.heap.objs.size [s.heap.objs.size] [s.heap.objs.size] n (fun i v => i < n ∧ ∃ t, v = .int (i : Nat) t) (fun i h => IsRangeIter h s.heap.objs.size (0 + (i : Nat) * 1) ((n : Int) - (i : Nat)) 1) := by
    have W₀ := (Walks.range (prog := prog) (w := w) (A := A) hh s.heap.objs.size 0 1 n).bound
    exact ⟨W₀.sub, W₀.frame, fun i s Q E hi st h => W₀.item i s Q E hi st fun v h' tk hP => h v h' tk ⟨hP.1, by obtain ⟨_, t, e⟩ := hP; exact ⟨t, by rw [e]; simp⟩⟩, W₀.done, W₀.self⟩
  have KT : KTurns prog w A target s.heap.objs.size _ _ n _ _ _ := KTurns.ofWalks W fun i v s Q E _ q => wpAny_of_eq (hgo _ _) q
  refine ktu_core (tk0 := s.toks) (keep := []) KT (rgI_len n).symm ?_ ?_ ?_ ?_ ?_ ?_ ?_ ?_ (F.push _) (fun p hp => ⟨Heap.get?_push_of_some _ (N p hp).1, (N p hp).2⟩) trivial (rest₀ _ fun p hp => Heap.lt_size (N p hp).1)
  · rintro i v h ⟨hi, t, rfl⟩
    exact ⟨_, rgI_get hi, t, rfl⟩
  · intro i h st
    have h1 : ∃ o : Obj, h.get? s.heap.objs.size = some o ∧ o.cls = .type "range_iterator" := ⟨_, st, rfl⟩
    obtain ⟨o, h1, h2⟩ := h1
    exact ⟨[(s.heap.objs.size, o)], ⟨⟨rfl, h2⟩, trivial⟩, fun p hp => by rw [List.mem_singleton.mp hp]; exact h1⟩
  · intro b hb
    have hb' : b = s.heap.objs.size := by simpa using hb
    rw [hb']
    exact ⟨List.mem_cons_self .., next_is_new F⟩
  · intro b hb
    simpa using hb
  · intro b hb
    exact .inl (by simpa using hb)
  · intro hI
    exact absurd F.ns.lt ((List.mem_singleton.mp hI) ▸ Nat.lt_irrefl _)
  · intro p hp hI
    exact absurd (Heap.lt_size (N p hp).1) ((List.mem_singleton.mp hI) ▸ Nat.lt_irrefl _)
  · show IsRangeIter _ _ _ _ _
    rw [size_nat]
    simpa using Heap.get?_push_size s.heap rfl
/-- a loop over range(n), its target any place -/
theorem range_cell {ws : List (Addr × String)} {n : Nat} {m₀ : Str → Option Value} {news : Led} {σ : Type} (Ld : σ → Led) (ps : σ → List (Str × Value)) (stored : List Str) (R : Nat → σ → Prop) (c₀ : σ)
    (hn : news = Ld c₀) (hk : ∀ p ∈ ps c₀, m₀ p.1 = some p.2) (hr : R 0 c₀)
    (turn : ∀ i c (u : Str → Option Value) t h tk, i < n → R i c → Fr h₀ env.locals h (kstB (fun z => if stored.contains z then u z else m₀ z) (ps c)) → AllObj ws (fun its => News h₀ env.locals h (its ++ Ld c) →
      wpAny (model prog w) A (assign target env (.int (i : Nat) t)) (fun _ s₂ => wpAny (model prog w) A (execs body env) (UnrPostW h₀ env.locals { s with heap := h, toks := tk } its (fun m' n' => SubL [] n' ∧ Left Ld ps stored m₀ (fun c' => ∃ j, j ≤ n ∧ rgI n (i + 1) = rgI n j ∧ R j c') m' n') Q) E s₂) E { s with heap := h, toks := tk }))
    (done : ∀ c (u : Str → Option Value) h tk, R n c → Fr h₀ env.locals h (kstB (fun z => if stored.contains z then u z else m₀ z) (ps c)) → News h₀ env.locals h (Ld c) → Q .next { s with heap := h, toks := tk }) :
    ItemsRest prog w A E h₀ env target body Q s ws [] (rgI n 0) m₀ news := by
  refine items_st Ld ps stored (fun r c => ∃ j, j ≤ n ∧ r = rgI n j ∧ R j c) c₀ hn hk ⟨0, Nat.zero_le _, rfl, hr⟩ ?_ ?_
  · rintro a r c u v h tk ⟨j, hj, hrj, hR⟩ hv F
    obtain ⟨h1, rfl, rfl⟩ := rgI_step hrj
    obtain ⟨t, rfl⟩ := hv
    exact turn j c u t h tk h1 hR F
  · rintro c u h tk ⟨j, hj, hrj, hR⟩ F N
    obtain rfl := rgI_nil hrj hj
    exact done c u h tk hR F N
end
section
variable {prog : Program} {w : World} {A : Around} {E : Value → Shared → Prop} {s : Shared} {h₀ : Heap} {L l : Addr} {m : Str → Option Value} {news : Led} {ps : List Addr} {n j : Nat} {u : Tok}
/-- an item of a list of addresses that stands in the ledger -/
theorem item_ref {value slice : PySem.Expr} {p : Addr} {Q : Value → Shared → Prop} (N : News h₀ L s.heap news) (hm : (l, lst (ps.map Value.ref)) ∈ news) (hj : ps[j]? = some p) (hz : ps.length ≤ 1000) (h : Q (.ref p) s)
    (hs : subscripted slice false (.ref l) (.int (j : Int) u) = operate [.ref l, .int (j : Int) u] (getItem (.ref l) (.int (j : Int) u)) := by with_unfolding_all rfl) :
    wpAny (model prog w) A (subscriptTail value slice (.ref l) (.int (j : Int) u)) Q E s := by
  have hl : s.heap.IsList l (ps.map Value.ref).toArray := News.isList N hm
  have hlt : j < ps.length := by
    rcases Nat.lt_or_ge j ps.length with h | h
    · exact h
    · rw [List.getElem?_eq_none h] at hj; cases hj
  exact tail_any hl.typeIs slot_list_getitem.lookup (wpAny_getItem_list hl (Int.natCast_nonneg _) (by omega) (by simpa using hj) h) hs
end
theorem words_R01 : True := by
  k_with "my:subscriptTail Name Name ref int" => ((k_here; (with_reducible show wpAny _ _ (subscriptTail _ _ (Value.ref _) (Value.int _ _)) _ _ _); (with_unfolding_all refine' item_ref ?k1ₓ ?k2ₓ ?k3ₓ ?k4ₓ ?_ ?k7ₓ; (case k3ₓ => assumption); (case k4ₓ => omega); (case k1ₓ => k_asm); (case k2ₓ => assumption); (case k7ₓ => with_unfolding_all rfl); k_whole)))
  k_with "my:call ref" => ((k_here; (with_reducible show wpAny _ _ (call (Value.ref 62) [Value.ref _, Value.ref _, Value.ref _] _) _ _ _); k_dflt (refine' tel_i ?Bₓ ?Fₓ ?Xₓ ?Nₓ ?Tₓ ?hkₓ (cmp_tel _ _ _ _ _ _ _ _ _ _ _ _ _ _ ?p1ₓ ?p2ₓ ?p3ₓ ?p4ₓ ?p5ₓ ?p6ₓ ?p7ₓ) ?hdₓ ?huₓ ?_); (case Bₓ => k_asm); (case Fₓ => k_asm); (case Xₓ => k_asm); (case Nₓ => k_asm); (case Tₓ => k_asm); (case hkₓ => first | exact rfl | assumption); (case hdₓ => ktr_room); (case huₓ => ktr_units); (case p1ₓ => assumption); (case p2ₓ => assumption); (case p3ₓ => assumption); (case p4ₓ => assumption); (case p5ₓ => assumption); (case p6ₓ => assumption); (case p7ₓ => assumption); intro t9ₓ h9ₓ tk9ₓ F9ₓ N9ₓ; (try dsimp only); (try k_fold)))
  trivial
section
variable {prog : Program} {w : World} {A : Around} {E : Value → Shared → Prop} {s : Shared} {h₀ : Heap} {L l D : Addr} {m : Str → Option Value} {news : Led} {g : Obj → Led} {vs : List Value} {ns : List Int} {n j : Nat} {k x : Int} {t u : Tok}
/-- an item of a written list -/
theorem item_lit {value slice : PySem.Expr} {v : Value} {Q : Value → Shared → Prop} (N : News h₀ L s.heap news) (hm : (l, PySem.W.listOf vs.toArray n) ∈ news) (hj : vs[j]? = some v) (hk : k = (j : Nat)) (hz : j ≤ 100) (h : Q v s)
    (hs : subscripted slice false (.ref l) (.int k u) = operate [.ref l, .int k u] (getItem (.ref l) (.int k u)) := by with_unfolding_all rfl) :
    wpAny (model prog w) A (subscriptTail value slice (.ref l) (.int k u)) Q E s := by
  subst hk
  exact tail_any (News.isList N hm).typeIs slot_list_getitem.lookup (wpAny_getItem_list (News.isList N hm) (Int.natCast_nonneg _) (by omega) (by simpa using hj) h) hs
/-- an int put at a list's end -/
theorem append_led {Q : Value → Shared → Prop} (F : Fr h₀ L s.heap m) (N : News h₀ L s.heap news) (U : UpdF D (PySem.W.listOf vs.toArray n) news g) (hI : IntsAre vs ns) (hz : ns.length ≤ 1000)
    (h : ∀ h' vs' n', Fr h₀ L h' m → News h₀ L h' (g (PySem.W.listOf vs'.toArray n')) → IntsAre vs' (ns ++ [x]) → Q .none { s with heap := h' }) : wpAny (model prog w) A (call (.builtin "list.append") [.ref D, .int x t]) Q E s := by
  have e : vs.toArray.push (Value.int x t) = (vs ++ [Value.int x t]).toArray := by simp
  refine append_K (news' := g (PySem.W.listOf (vs ++ [Value.int x t]).toArray (n + 1))) F N (by rw [e]; exact updF_to U _) (fun h' F' N' => h h' _ _ F' N' (hI.append (.cons _ _ .nil))) ?_
  rw [List.size_toArray, hI.length, sizeLine_eq]
  omega
end
/-! DC -/
section
variable {prog : Program} {w : World} {A : Around} {E : Value → Shared → Prop} {s : Shared} {h₀ : Heap} {L : Addr} {m : Str → Option Value} {env : Env}
/-- an iterator that a dict comprehension may walk -/
def DAt (prog : Program) (w : World) (A : Around) (E : Value → Shared → Prop) (env : Env) (kx vx iter : Expr) (x : Str) (px : Pos) (ifs : List Expr) (scope : Scope) (cl : List (Str × Addr)) (pos : Pos) (Q : Value → Shared → Prop) (it : Value) (s₂ : Shared) : Prop :=
  wpAny (model prog w) A newDict (fun acc s₃ => wpAny (model prog w) A (newFunctionEnv scope env.globals cl [] env.qual none .none (some env)) (fun cenv s₄ =>
      codeAny (model prog w) A (.compStart (.DictComp kx vx [⟨.Name x px, iter, ifs, 0⟩] scope pos) 0 it acc { cenv with scope := relabel scope env }) (compPost (model prog w) A E none Q acc cenv.locals) s₄) E s₃) E s₂
theorem dcomp_open {kx vx iter : Expr} {x : Str} {px : Pos} {ifs : List Expr} {scope : Scope} {cl : List (Str × Addr)} {pos : Pos} {Q : Value → Shared → Prop}
    (hclos : closureFor scope env = pure cl) (hkind : scope.kind = .function) (hnames : ∀ y ∈ scope.names, y.2 = .local → scope.names.lookup y.1 = some .local)
    (h : wpAny (model prog w) A (eval iter env) (fun xv s₁ => wpAny (model prog w) A (pyIter xv) (fun it s₂ => DAt prog w A E env kx vx iter x px ifs scope cl pos Q it s₂) E s₁) E s)
    (hs : ∀ x, foldedSetIterable iter env x = pure x := by intro _; rfl) :
    wpAny (model prog w) A (eval (.DictComp kx vx [⟨.Name x px, iter, ifs, 0⟩] scope pos) env) Q E s := by
  rw [arm_eval_DictComp]
  exact wpAny_comprehension_free (use := none) rfl hs hclos hkind hnames h
end
def keyIn (pz : Int → Bool) : Value → Bool
  | .int k _ => pz k
  | _ => false
/-- a table's part -/
def dsub (c : List (Int × Int)) (pz : Int → Bool) : List (Int × Int) := ((c.map (·.1)).filter pz).map fun k => (k, kdfLook c k 0)
theorem ints_snoc {v : Value} : ∀ {l : List Value} {ks : List Int}, IntsAre (l ++ [v]) ks → ∃ ks' k t, ks = ks' ++ [k] ∧ IntsAre l ks' ∧ v = Value.int k t := by
  intro l
  induction l with
  | nil =>
    intro ks h
    cases h with
    | cons k t h => cases h; exact ⟨[], k, t, rfl, .nil, rfl⟩
  | cons a l ih =>
    intro ks h
    cases h with
    | cons k t h =>
      obtain ⟨ks', k', t', rfl, h1, h2⟩ := ih h
      exact ⟨k :: ks', k', t', rfl, .cons k t h1, h2⟩
theorem ints_filter {pz : Int → Bool} : ∀ {l : List Value} {ks : List Int}, IntsAre l ks → IntsAre (l.filter (keyIn pz)) (ks.filter pz)
  | _, _, .nil => .nil
  | _, _, .cons k t h => by
    have ih := ints_filter (pz := pz) h
    simp only [List.filter_cons]
    show IntsAre (if pz k = true then _ else _) _
    cases pz k with
    | true => exact .cons k t ih
    | false => exact ih
theorem flat_keys {kvs : List (Int × Value)} : ∀ {c : List (Int × Int)}, FlatPairs PyData.int kvs (kdfD c) → kvs.map (·.1) = c.map (·.1) := by
  induction kvs with
  | nil => intro c h; cases c with
    | nil => rfl
    | cons _ _ => cases h
  | cons p kvs ih =>
    intro c h
    cases c with
    | nil => cases h
    | cons q c =>
      obtain ⟨k, v⟩ := p
      obtain ⟨k', v'⟩ := q
      have h' : FlatPairs PyData.int ((k, v) :: kvs) ((PyData.int k', PyData.int v') :: kdfD c) := h
      cases h' with
      | cons hv hr => rw [List.map_cons, List.map_cons, ih hr]
theorem flat_snoc {kvs : List (Int × Value)} {k : Int} {v : Value} {d : PyData} : ∀ {D : List (PyData × PyData)}, FlatPairs PyData.int kvs D → Flat v d → FlatPairs PyData.int (kvs ++ [(k, v)]) (D ++ [(PyData.int k, d)]) := by
  intro D h hv
  induction h with
  | nil => exact .cons hv .nil
  | cons h1 _ ih => exact .cons h1 ih
theorem stored_flat {c : List (Int × Int)} {l : List Value} {kvs : List (Int × Value)} (h : StoredAll (fun v k => ∃ t, v = Value.int k t) (fun v y => ∃ k t t', v = Value.int k t ∧ y = Value.int (kdfLook c k 0) t') l kvs) :
    ∀ ks, IntsAre l ks → ks.Nodup → FlatPairs PyData.int kvs (kdfD (ks.map fun k => (k, kdfLook c k 0))) ∧ kvs.map (·.1) = ks := by
  induction h with
  | nil => intro ks hi _; cases hi; exact ⟨.nil, rfl⟩
  | @snoc l kvs v k y _ hk hy ih =>
    intro ks hi hn
    obtain ⟨ks', k', t', rfl, h1, h2⟩ := ints_snoc hi
    obtain ⟨t, rfl⟩ := hk
    obtain ⟨k2, t2, t3, e2, rfl⟩ := hy
    cases h2
    cases e2
    obtain ⟨a, b, d⟩ := List.nodup_append.mp hn
    obtain ⟨f1, f2⟩ := ih ks' h1 a
    have e : stored kvs k (Value.int (kdfLook c k 0) t3) = kvs ++ [(k, Value.int (kdfLook c k 0) t3)] := by
      unfold stored
      rw [if_neg]
      intro q
      obtain ⟨p, hp, hq⟩ := List.any_eq_true.mp q
      have : p.1 ∈ ks' := f2 ▸ List.mem_map_of_mem hp
      exact d p.1 this k (by simp) (of_decide_eq_true hq)
    rw [e]
    refine ⟨?_, by rw [List.map_append, f2]; rfl⟩
    rw [List.map_append]
    show FlatPairs PyData.int _ (kdfD _)
    unfold kdfD
    rw [List.map_append]
    exact flat_snoc f1 (.int _ _)
theorem ints_of_at : ∀ {vs : List Value} {ks : List Int}, vs.length = ks.length → (∀ (j : Nat) (v : Value), vs[j]? = some v → ∃ (k : Int) (t : Tok), ks[j]? = some k ∧ v = Value.int k t) → IntsAre vs ks
  | [], [], _, _ => .nil
  | [], _ :: _, h, _ => by cases h
  | _ :: _, [], h, _ => by cases h
  | v :: vs, k :: ks, h, hv => by
    obtain ⟨k', t, e, rfl⟩ := hv 0 v rfl
    cases e
    exact .cons k t (ints_of_at (by simpa using h) fun j v hj => hv (j + 1) v (by simpa using hj))
section
variable {prog : Program} {w : World} {A : Around} {E : Value → Shared → Prop} {s : Shared} {h₀ : Heap} {L : Addr} {m : Str → Option Value} {env : Env} {news : Led}
theorem dcomp_keys {kx vx iter : Expr} {x : Str} {px : Pos} {ct : Expr} {scope : Scope} {cl : List (Str × Addr)} {pos : Pos} {Q : Value → Shared → Prop} {d : Addr} {od : Obj} {c : List (Int × Int)} {kvs : List (Int × Value)} (pz : Int → Bool)
    (hh : A.handled = none) (F : Fr h₀ L s.heap m) (N : News h₀ L s.heap news) (hbig : h₀.NoLimit) (hm : (d, od) ∈ news) (hd : od.IsDictOf (PySem.intKind prog w) kvs) (hf : FlatPairs PyData.int kvs (kdfD c)) (hl : c.length ≤ 1000) (lo : (d == sysModules) = false)
    (hcell : ∀ y ∈ scope.names, y.2 ≠ .cell) (hkind : scope.kind = .function) (hx : scope.names.lookup x = some .local)
    (htest : ∀ C m₃ k t (s₃ : Shared) (E' : Value → Shared → Prop), k ∈ c.map (·.1) → m₃ x = some (.int k t) → s₃.heap.Ns C m₃ → Fr h₀ L s₃.heap m → News h₀ L s₃.heap news →
      wpAny (model prog w) A (isTrue ct (compEnvC scope cl C env) (eval ct (compEnvC scope cl C env))) (fun ok s₄ => ok = pz k ∧ Keeps s₃ s₄) E' s₃)
    (hkey : ∀ C m₃ k t (s₃ : Shared) (E' : Value → Shared → Prop), k ∈ c.map (·.1) → m₃ x = some (.int k t) → s₃.heap.Ns C m₃ → Fr h₀ L s₃.heap m → News h₀ L s₃.heap news →
      wpAny (model prog w) A (eval kx (compEnvC scope cl C env)) (fun y s₄ => (∃ t, y = .int k t) ∧ Keeps s₃ s₄) E' s₃)
    (hval : ∀ C m₃ k t (s₃ : Shared) (E' : Value → Shared → Prop), k ∈ c.map (·.1) → m₃ x = some (.int k t) → s₃.heap.Ns C m₃ → Fr h₀ L s₃.heap m → News h₀ L s₃.heap news →
      wpAny (model prog w) A (eval vx (compEnvC scope cl C env)) (fun y s₄ => (∃ t, y = .int (kdfLook c k 0) t) ∧ Keeps s₃ s₄) E' s₃)
    (hQ : ∀ D h' tk o' kvs', Fr h₀ L h' m → News h₀ L h' ((D, o') :: news) → (∀ p ∈ news, p.1 < D) → o'.IsDictOf (PySem.intKind prog w) kvs' → FlatPairs PyData.int kvs' (kdfD (dsub c pz)) → (D == sysModules) = false → Q (.ref D) { s with heap := h', toks := tk }) :
    wpAny (model prog w) A (pyIter (.ref d)) (fun it s₂ => DAt prog w A E env kx vx iter x px [ct] scope cl pos Q it s₂) E s := by
  have hdn := (N _ hm).1
  have hD : s.heap.DictOf (PySem.intKind prog w) d kvs := Heap.dictOf_iff.mpr ⟨od, hdn, hd⟩
  obtain ⟨ep, hat⟩ := hD.dictAt
  have hkn : (kvs.map (·.1)).Nodup := by obtain ⟨_, _, _, _, _, _, h⟩ := hd; exact h
  have hkc : kvs.map (·.1) = c.map (·.1) := flat_keys hf
  have hlen : kvs.length = c.length := by have := congrArg List.length hkc; simpa using this
  have hne : d ≠ s.heap.objs.size := Nat.ne_of_lt hat.lt_size
  refine wpAny_pyIter_dict lo hat ?_
  generalize hH1 : s.heap.push { cls := .type "dict_keyiterator", data := .fields #[.ref d, .int 0 0, .int kvs.length 0, .int ep 0] } = H1
  have hI : H1.get? s.heap.objs.size = some { cls := .type "dict_keyiterator", data := .fields #[.ref d, .int 0 0, .int kvs.length 0, .int ep 0] } := hH1 ▸ Heap.get?_push_size _ rfl
  have up1 : ∀ b o, s.heap.get? b = some o → H1.get? b = some o := fun b o e => hH1 ▸ Heap.get?_push_of_some _ e
  have z1 : H1.objs.size = s.heap.objs.size + 1 := by rw [← hH1, Heap.size_push]
  have W := Walks.dictKeys (knd := PySem.intKind prog w) (A := A) hh s.heap.objs.size d hne kvs ep
  unfold DAt
  refine wpAny_newObj_type (wpAny_newFunctionEnv hcell (by intro y hy; simp at hy) (fun h₁ hns₁ hsb₁ => ?_) hkind)
  dsimp only at hns₁ hsb₁ ⊢
  have hnew : (H1.push { cls := .type "dict", dict := none, data := .dict #[] }).DictOf (PySem.intKind prog w) H1.objs.size [] := Heap.DictOf.new H1
  have up2 : ∀ b o, H1.get? b = some o → (H1.push { cls := .type "dict", dict := none, data := .dict #[] }).get? b = some o := fun b o e => Heap.get?_push_of_some _ e
  have z2 : (H1.push { cls := .type "dict", dict := none, data := .dict #[] }).objs.size = H1.objs.size + 1 := Heap.size_push _ _
  generalize hH2 : H1.push { cls := .type "dict", dict := none, data := .dict #[] } = H2 at hns₁ hsb₁ hnew up2 z2 ⊢
  have old1 : ∀ b o, H1.get? b = some o → b ≠ H2.objs.size ∧ b ≠ H1.objs.size := fun b o e => by
    have h := Heap.lt_size e
    exact ⟨by rw [z2]; exact Nat.ne_of_lt (Nat.lt_succ_of_lt h), Nat.ne_of_lt h⟩
  have keep1 : ∀ b o, H1.get? b = some o → h₁.get? b = some o := fun b o e => hsb₁.extBut b o (old1 b o e).1 (Heap.get?_push_of_some _ (up2 b o e))
  have hDC : H1.objs.size ≠ H2.objs.size := by rw [z2]; exact Nat.ne_of_lt (Nat.lt_succ_self _)
  have hacc : h₁.DictOf (PySem.intKind prog w) H1.objs.size [] := hnew.at fun o e => hsb₁.extBut _ _ hDC (Heap.get?_push_of_some _ e)
  have hst : h₁.IsKeyIter s.heap.objs.size d 0 kvs.length ep ∧ h₁.DictAt (PySem.intKind prog w) d kvs ep :=
    ⟨⟨_, keep1 _ _ hI, rfl, by simp⟩, hat.at' fun o e => keep1 _ _ (up1 _ _ e)⟩
  have lt1 : s.heap.objs.size < H1.objs.size := by rw [z1]; exact Nat.lt_succ_self _
  have lt2 : H1.objs.size < H2.objs.size := by rw [z2]; exact Nat.lt_succ_self _
  have up3 : ∀ b o, s.heap.get? b = some o → b ≠ H2.objs.size ∧ b ∉ [s.heap.objs.size] ∧ b ≠ H1.objs.size := fun b o e => by
    have h := Heap.lt_size e
    exact ⟨Nat.ne_of_lt (Nat.lt_trans h (Nat.lt_trans lt1 lt2)), fun q => absurd (List.mem_singleton.mp q) (Nat.ne_of_lt h), Nat.ne_of_lt (Nat.lt_trans h lt1)⟩
  have hdlt : @LT.lt Nat _ d s.heap.objs.size := hat.lt_size
  have hDf : H1.objs.size ∉ [s.heap.objs.size, d] := fun q => by
    rcases List.mem_cons.mp q with q | q
    · exact absurd q (Nat.ne_of_gt lt1)
    · exact absurd (List.mem_singleton.mp q) (Nat.ne_of_gt (Nat.lt_trans hdlt lt1))
  have hCf : H2.objs.size ∉ [s.heap.objs.size, d] := fun q => by
    rcases List.mem_cons.mp q with q | q
    · exact absurd q (Nat.ne_of_gt (Nat.lt_trans lt1 lt2))
    · exact absurd (List.mem_singleton.mp q) (Nat.ne_of_gt (Nat.lt_trans hdlt (Nat.lt_trans lt1 lt2)))
  have two : ∀ g : Heap, (∀ b o, b ≠ H2.objs.size → b ∉ [s.heap.objs.size] → b ≠ H1.objs.size → h₁.get? b = some o → g.get? b = some o) → Fr h₀ L g m ∧ News h₀ L g news := fun g hk => by
    have k : ∀ b o, s.heap.get? b = some o → g.get? b = some o := fun b o e => hk b o (up3 b o e).1 (up3 b o e).2.1 (up3 b o e).2.2 (keep1 b o (up1 b o e))
    exact ⟨F.keeps k, N.grown k⟩
  have hP : ∀ (i : Nat) (v : Value), (∃ k x, kvs[i]? = some (k, x) ∧ (PySem.intKind prog w).is k v = true) → ∃ k t, k ∈ c.map (·.1) ∧ v = .int k t ∧ (c.map (·.1))[i]? = some k := fun i v h => by
    obtain ⟨k, x, h1, h2⟩ := h
    obtain ⟨t, rfl⟩ := Value.isInt_shape h2
    have h3 : (kvs.map (·.1))[i]? = some k := by rw [List.getElem?_map, h1]; rfl
    rw [hkc] at h3
    exact ⟨k, t, List.mem_of_getElem? h3, rfl, h3⟩
  have loop : ∀ s₃ : Shared, s₃ = { s with heap := h₁, toks := s.toks + ([] : List (Str × Value)).length } →
      codeAny (model prog w) A (.compLoop (.DictComp kx vx [⟨.Name x px, iter, [ct], 0⟩] scope pos) 0 (.ref s.heap.objs.size) (.ref H1.objs.size) (compEnvC scope cl H2.objs.size env))
        (compPost (model prog w) A E none Q (.ref H1.objs.size) H2.objs.size) s₃ := by
    rintro s₃ rfl
    refine codeAny_compLoop_walkD (hsz := by rw [hlen]; exact Nat.le_trans hl (by rw [sizeLine_eq]; omega)) (knd := PySem.intKind prog w) (cenv := compEnvC scope cl H2.objs.size env) W (keyIn pz) (fun v k => ∃ t, v = .int k t) (fun v y => ∃ k t t', v = .int k t ∧ y = .int (kdfLook c k 0) t')
      (lookup_relabel_local hx) (by simp [compEnvC, relabel, hkind]) hDC hDf hCf hst hacc hns₁ ?_ ?_ ?_ ?_
    · intro i v s₂ m₂ hv hn hm hk
      obtain ⟨k, t, h1, rfl, _⟩ := hP i v hv
      obtain ⟨F₂, N₂⟩ := two _ hk
      exact tst_run (ifs := [ct]) (htest _ m₂ k t s₂ _ h1 hm hn F₂ N₂)
    · intro i v s₂ m₂ hv _ hn hm hk
      obtain ⟨k, t, h1, rfl, _⟩ := hP i v hv
      obtain ⟨F₂, N₂⟩ := two _ hk
      refine wpAny_mono (hkey _ m₂ k t s₂ _ h1 hm hn F₂ N₂) (fun y s₄ h => ?_) fun _ _ e => e
      obtain ⟨⟨t', rfl⟩, h⟩ := h
      exact ⟨⟨k, intKind_is _ _ _ _, t, rfl⟩, h⟩
    · intro i v s₂ m₂ hv _ hn hm hk
      obtain ⟨k, t, h1, rfl, _⟩ := hP i v hv
      obtain ⟨F₂, N₂⟩ := two _ hk
      refine wpAny_mono (hval _ m₂ k t s₂ _ h1 hm hn F₂ N₂) (fun y s₄ h => ?_) fun _ _ e => e
      obtain ⟨⟨t', rfl⟩, h⟩ := h
      exact ⟨⟨k, t, t', rfl, rfl⟩, h⟩
    · intro h' tk m' kvs' vs hn hdd hlv hvs hst' hk
      obtain ⟨F', N'⟩ := two _ hk
      refine ⟨m', hn, fun h'' hs'' => ?_⟩
      obtain ⟨o', ho', hd'⟩ := Heap.dictOf_iff.mp (hdd.extBut hs''.extBut hDC)
      have hC₀ : h₀.get? H2.objs.size = none := by
        cases e : h₀.get? H2.objs.size with
        | none => rfl
        | some o => exact absurd (Heap.lt_size (F.keep _ _ e)) (Nat.not_lt.mpr (Nat.le_of_lt (Nat.lt_trans lt1 lt2)))
      have hD₀ : h₀.get? H1.objs.size = none := by
        cases e : h₀.get? H1.objs.size with
        | none => rfl
        | some o => exact absurd (Heap.lt_size (F.keep _ _ e)) (Nat.not_lt.mpr (Nat.le_of_lt lt1))
      have hL : L < s.heap.objs.size := F.ns.lt
      have k : ∀ b o, s.heap.get? b = some o → h''.get? b = some o := fun b o e => hs''.extBut b o (up3 b o e).1 (hk b o (up3 b o e).1 (up3 b o e).2.1 (up3 b o e).2.2 (keep1 b o (up1 b o e)))
      have hiv : IntsAre vs (c.map (·.1)) := ints_of_at (by rw [hlv, hlen]; simp) fun j v hj => by
        obtain ⟨k, t, _, e1, e2⟩ := hP j v (hvs j v hj)
        exact ⟨k, t, e2, e1⟩
      have hfl := stored_flat hst' _ (ints_filter hiv) (List.Pairwise.filter _ (hkc ▸ hkn))
      refine hQ H1.objs.size h'' tk o' kvs' (F.keeps k) (fun p hp => ?_) (fun p hp => Nat.lt_trans (Heap.lt_size (N p hp).1) lt1) hd' hfl.1 ((F.keeps up1).notModules (modules_low hbig))
      rcases List.mem_cons.mp hp with rfl | hp
      · exact ⟨ho', Nat.ne_of_gt (Nat.lt_trans hL lt1), hD₀⟩
      · exact N.grown k p hp
  exact codeAny_compStart_dict (loop _ rfl) (W.self 0 _ _ _ hst (loop _ rfl))
theorem nm_local {x : Str} {px : Pos} {m₁ : Str → Option Value} {v : Value} {Q : Value → Shared → Prop} (hd : (x == ("__debug__" : Str)) = false) (hk : env.scope.kind = .function) (hl : env.kindOf x = some .local) (hn : s.heap.Ns env.locals m₁) (hv : m₁ x = some v) (h : Q v s) :
    wpAny (model prog w) A (eval (.Name x px) env) Q E s := by
  rw [PySem.eval_Name env x px hd]
  exact wpAny_bind (wpAny_standAt (wpAny_loadName_local hk hl hn hv h))
theorem nm_free {x : Str} {px : Pos} {c : Addr} {o : Obj} {v : Value} {Q : Value → Shared → Prop} (hd : (x == ("__debug__" : Str)) = false) (hk : env.scope.kind = .function) (hl : env.kindOf x = some .free) (hc : env.cells.lookup x = some c) (N : News h₀ L s.heap news) (hm : (c, o) ∈ news) (ho : o.data = .cell (some v))
    (hn : (x == ("__classdict__" : Str)) = false) (h : Q v s) : wpAny (model prog w) A (eval (.Name x px) env) Q E s := by
  rw [PySem.eval_Name env x px hd]
  exact wpAny_bind (wpAny_standAt (wpAny_loadName_free hk hl hc ⟨o, N.get hm, ho⟩ h hn))
theorem nm_cell {x : Str} {px : Pos} {c : Addr} {o : Obj} {v : Value} {Q : Value → Shared → Prop} (hd : (x == ("__debug__" : Str)) = false) (hk : env.scope.kind = .function) (hl : env.kindOf x = some .cell) (hc : env.cells.lookup x = some c) (N : News h₀ L s.heap news) (hm : (c, o) ∈ news) (ho : o.data = .cell (some v))
    (h : Q v s) : wpAny (model prog w) A (eval (.Name x px) env) Q E s := by
  rw [PySem.eval_Name env x px hd]
  exact wpAny_bind (wpAny_standAt (wpAny_loadName_cell hk hl hc ⟨o, N.get hm, ho⟩ h))
theorem item_dict {value slice : PySem.Expr} {d : Addr} {o : Obj} {kvs : List (Int × Value)} {c : List (Int × Int)} {k : Int} {u : Tok} {Q : Value → Shared → Prop} (N : News h₀ L s.heap news) (hm : (d, o) ∈ news) (hd : o.IsDictOf (PySem.intKind prog w) kvs) (hf : FlatPairs PyData.int kvs (kdfD c)) (lo : (d == sysModules) = false) (hk : k ∈ c.map (·.1))
    (h : ∀ t, Q (.int (kdfLook c k 0) t) { s with toks := s.toks + 1 })
    (hs : subscripted slice false (.ref d) (.int k u) = operate [.ref d, .int k u] (getItem (.ref d) (.int k u)) := by with_unfolding_all rfl) :
    wpAny (model prog w) A (subscriptTail value slice (.ref d) (.int k u)) Q E s := by
  have hD : s.heap.DictOf (PySem.intKind prog w) d kvs := Heap.dictOf_iff.mpr ⟨o, N.get hm, hd⟩
  have hh : kdfHas c k = true := by
    obtain ⟨p, hp, e⟩ := List.mem_map.mp hk
    exact List.any_eq_true.mpr ⟨p, hp, decide_eq_true e⟩
  refine tail_any hD.typeIs slot_dict_getitem.lookup (getItem_tab PyProof.V.same_int (intKind_is _ _ _ _) (TabAt.ofNews N hm lo hd hf) (kdfD_item hh) fun v hv => ?_) hs
  obtain ⟨t, rfl⟩ := Flat.int_inv hv
  exact h t
end
theorem words_DC1 : True := by
  k_with "my:eval DictComp" => ((k_here; (with_reducible show wpAny _ _ (eval (PySem.Expr.DictComp _ _ [⟨PySem.Expr.Name _ _, _, _, _⟩] _ _) _) _ _ _); k_dflt (refine dcomp_open (by with_unfolding_all rfl) (by rfl) (by decide) ?_)))
  trivial
/-! I1 -/
theorem colsD_snoc {ps : List Addr} {c : Led} {i n' : Nat} {e : Addr} {t' u' : Tok} (hl : ps.length = i) (hps : ∀ (k : Nat) (p : Addr), ps[k]? = some p → ∃ t u n, (p, tupO [.int (k : Nat) t, .int 1 u] n) ∈ c) :
    ∀ (k : Nat) (p : Addr), (ps ++ [e])[k]? = some p → ∃ t u n, (p, tupO [.int (k : Nat) t, .int 1 u] n) ∈ (e, tupO [.int (i : Nat) t', .int 1 u'] n') :: c := by
  intro k p hp
  rcases Nat.lt_trichotomy k i with h | h | h
  · rw [List.getElem?_append_left (by omega)] at hp
    obtain ⟨t, u, n, h⟩ := hps k p hp
    exact ⟨t, u, n, .tail _ h⟩
  · subst h
    rw [← hl, List.getElem?_append_right (Nat.le_refl _)] at hp
    simp at hp
    subst hp
    rw [← hl]
    exact ⟨t', u', n', .head _⟩
  · rw [List.getElem?_eq_none (by simp; omega)] at hp
    cases hp
/-- apart from a stretch of addresses -/
def Off (l : Led) (a b : Nat) : Prop := ∀ p ∈ l, @LT.lt Nat _ p.1 a ∨ @LT.lt Nat _ b p.1
theorem off_ne {l : Led} {a b : Nat} {x : Addr} (h : Off l a b) (h1 : @LE.le Nat _ a x) (h2 : @LE.le Nat _ x b) : ∀ p ∈ l, p.1 ≠ x := fun p hp q => by
  have := h p hp
  have q' : @Eq Nat p.1 x := q
  omega
theorem words_I11 : True := by
  k_with "my:k_all" => (exact off_ne (by assumption) (by first | ((repeat (first | exact Nat.le_refl _ | refine Nat.le_succ_of_le ?_)); done) | omega) (by first | ((repeat (first | exact Nat.le_refl _ | refine Nat.le_succ_of_le ?_)); done) | omega))
  trivial
/-- what the columns' comprehension has made -/
def ColsD (base : Led) (i : Nat) (c : Led) (ys : List Value) : Prop := (∃ ps : List Addr, ps.length = i ∧ ys = ps.map Value.ref ∧ ∀ (k : Nat) (p : Addr), ps[k]? = some p → ∃ t u n, (p, tupO [.int (k : Nat) t, .int 1 u] n) ∈ c) ∧ ∀ p ∈ c, ∀ q ∈ base, @LT.lt Nat _ q.1 p.1
theorem cols_end {h₀ : Heap} {L : Addr} {m : Str → Option Value} {s₂ : Shared} {I C D e : Addr} {o1 oC : Obj} {ys : List Value} {base c : Led} {i : Nat} {t u : Tok} {h' : Heap} {tk' : Nat} (hd : ColsD base i c ys) (F : Fr h₀ L h' m)
    (N : News h₀ L h' ((e, tupO [.int (i : Nat) t, .int 1 u] 0) :: (I, o1) :: (C, oC) :: (D, lst ys) :: (c ++ base))) (l0 : AllLt e ((I, o1) :: (C, oC) :: (D, lst ys) :: (c ++ base))) (ap : Apart (c ++ base) [I] D [C]) :
    CEnd2 h₀ L m s₂ [(I, o1)] [(C, oC)] [I] D [C] ys (fun c : Led => c ++ base) (fun c' => ColsD base (i + 1) c' (ys ++ [.ref e])) { s₂ with heap := h', toks := tk' } := by
  obtain ⟨⟨ps, hl, rfl, hps⟩, hf⟩ := hd
  refine cend_new c ((e, tupO [.int (i : Nat) t, .int 1 u] 0) :: c) F N (fun p hp => .tail _ hp) (.head _) rfl (kst_ltOf l0) rfl rfl ap ⟨⟨ps ++ [e], by simp [hl], by simp, colsD_snoc hl hps⟩, fun p hp q hq => ?_⟩
  rcases List.mem_cons.mp hp with rfl | hp
  · exact kst_ltOf l0 q (.tail _ (.tail _ (.tail _ (List.mem_append_right _ hq))))
  · exact hf p hp q hq
/-- the judge stands -/
theorem index_s1 {g h : Heap} {L : Nat} {x d D : Addr} {hs : Int} {t0 : Tok} {n1 : Nat} {ps : List Addr} {o1 o2 o3 o4 o5 : Obj} {B2 news : Led}
    (N : News g L h ((x, instObj 65 d) :: (d, dictOf [⟨hs, .str (Str.ofString "comp_select_list") t0, .ref D⟩] n1) :: (D, lst (ps.map Value.ref)) :: (L + 1 + 1 + 1 + 1 + 1, o1) :: (L + 1 + 1 + 1 + 1, o2) :: (L + 1 + 1 + 1, o3) :: (L + 1 + 1, o4) :: (L + 1, o5) :: B2))
    (hl : ps.length = 6) (c1 : ∀ (k : Nat) (p : Addr), ps[k]? = some p → ∃ t u n, (p, tupO [.int (k : Nat) t, .int 1 u] n) ∈ B2) (e1 : Off B2 L (L + 1 + 1 + 1 + 1 + 1)) (l4 : @LT.lt Nat _ (L + 1 + 1 + 1 + 1 + 1) D) (l1 : @LT.lt Nat _ D d) (l2 : @LT.lt Nat _ d x) (hn : ∀ p ∈ news, p ∈ B2) (hw : ∀ p ∈ B2, p ∈ news ∨ @LT.lt Nat _ L p.1) :
    ∃ B3 base, base = ((L + 1 + 1 + 1 + 1 + 1, o1) :: (L + 1 + 1 + 1 + 1, o2) :: (L + 1 + 1 + 1, o3) :: (L + 1 + 1, o4) :: (L + 1, o5) :: B3 : Led) ∧ News g L h base ∧ Cols B3 x ∧ Off B3 L (L + 1 + 1 + 1 + 1 + 1) ∧ (∀ p ∈ news, p ∈ B3) ∧ ∀ p ∈ B3, p ∈ news ∨ @LT.lt Nat _ L p.1 := by
  refine ⟨(x, instObj 65 d) :: (d, dictOf [⟨hs, .str (Str.ofString "comp_select_list") t0, .ref D⟩] n1) :: (D, lst (ps.map Value.ref)) :: B2, _, rfl, News.sub N (app_front [_, _, _, _, _] [_, _, _]), ⟨d, D, hs, t0, n1, _, ps, .head _, .tail _ (.head _), .tail _ (.tail _ (.head _)), hl, fun k p hp => ?_⟩, fun p hp => ?_, fun p hp => .tail _ (.tail _ (.tail _ (hn p hp))), fun p hp => ?_⟩
  · obtain ⟨t, u, n, h⟩ := c1 k p hp
    exact ⟨t, u, n, .tail _ (.tail _ (.tail _ h))⟩
  · simp only [List.mem_cons] at hp
    rcases hp with rfl | rfl | rfl | hp
    · exact .inr (by dsimp only; omega)
    · exact .inr (by dsimp only; omega)
    · exact .inr l4
    · exact e1 p hp
  · simp only [List.mem_cons] at hp
    rcases hp with rfl | rfl | rfl | hp
    · exact .inr (by dsimp only; omega)
    · exact .inr (by dsimp only; omega)
    · exact .inr (by dsimp only; omega)
    · exact hw p hp
/-- what a comprehension of new objects has made -/
def MadeD (PR : Nat → Obj → Prop) (base : Led) (i : Nat) (c : Led) (ys : List Value) : Prop := (∃ ps : List Addr, ps.length = i ∧ ys = ps.map Value.ref ∧ ∀ (k : Nat) (p : Addr), ps[k]? = some p → ∃ o, (p, o) ∈ c ∧ PR k o) ∧ ∀ p ∈ c, ∀ q ∈ base, @LT.lt Nat _ q.1 p.1
theorem made_nil {PR : Nat → Obj → Prop} {base : Led} : MadeD PR base 0 [] [] := ⟨⟨[], rfl, rfl, fun k p hp => by simp at hp⟩, fun p hp => by cases hp⟩
theorem made_snoc {PR : Nat → Obj → Prop} {base c : Led} {i : Nat} {ys : List Value} {e : Addr} {o : Obj} (hd : MadeD PR base i c ys) (ho : PR i o) (hl : ∀ q ∈ base, @LT.lt Nat _ q.1 e) : MadeD PR base (i + 1) ((e, o) :: c) (ys ++ [.ref e]) := by
  obtain ⟨⟨ps, rfl, rfl, hps⟩, hf⟩ := hd
  refine ⟨⟨ps ++ [e], by simp, by simp, fun k p hp => ?_⟩, fun p hp => ?_⟩
  · rcases Nat.lt_trichotomy k ps.length with h | h | h
    · rw [List.getElem?_append_left h] at hp
      obtain ⟨o', h1, h2⟩ := hps k p hp
      exact ⟨o', .tail _ h1, h2⟩
    · subst h
      simp at hp
      subst hp
      exact ⟨o, .head _, ho⟩
    · rw [List.getElem?_eq_none (by simp; omega)] at hp
      cases hp
  · rcases List.mem_cons.mp hp with rfl | hp
    · exact hl
    · exact hf p hp
theorem made_end {PR : Nat → Obj → Prop} {h₀ : Heap} {L : Addr} {m : Str → Option Value} {s₂ : Shared} {I C D e : Addr} {o1 oC oe : Obj} {ys : List Value} {base c all : Led} {i : Nat} {h' : Heap} {tk' : Nat} (hd : MadeD PR base i c ys) (F : Fr h₀ L h' m)
    (N : News h₀ L h' all) (hs : ∀ p ∈ (I, o1) :: (C, oC) :: (D, lst ys) :: (c ++ base), p ∈ all) (he : (e, oe) ∈ all) (ho : PR i oe) (hl : ∀ p ∈ (I, o1) :: (C, oC) :: (D, lst ys) :: (c ++ base), @LT.lt Nat _ p.1 e) (ap : Apart (c ++ base) [I] D [C]) :
    CEnd2 h₀ L m s₂ [(I, o1)] [(C, oC)] [I] D [C] ys (fun c : Led => c ++ base) (fun c' => MadeD PR base (i + 1) c' (ys ++ [.ref e])) { s₂ with heap := h', toks := tk' } :=
  cend_new c ((e, oe) :: c) F N hs he rfl hl rfl rfl ap (made_snoc hd ho fun q hq => hl q (.tail _ (.tail _ (.tail _ (List.mem_append_right _ hq)))))
theorem perm5 {I C D k1 k2 k3 k4 k5 : Addr × Obj} {c B : Led} : ∀ p ∈ I :: C :: D :: (c ++ (k5 :: k4 :: k3 :: k2 :: k1 :: B)), p ∈ I :: C :: D :: k1 :: k2 :: k3 :: k4 :: k5 :: (c ++ B) := sub_cons (sub_cons (sub_cons (rev_app [k1, k2, k3, k4, k5])))
theorem perm5r {I C D k1 k2 k3 k4 k5 : Addr × Obj} {c B : Led} : ∀ p ∈ I :: C :: D :: k1 :: k2 :: k3 :: k4 :: k5 :: (c ++ B), p ∈ I :: C :: D :: (c ++ (k5 :: k4 :: k3 :: k2 :: k1 :: B)) := sub_cons (sub_cons (sub_cons (app_rev [k1, k2, k3, k4, k5])))
theorem row_lt {R0 ex : Led} {tD cD R e : Addr} {oc ot : Obj} (l1 : AllLt tD R0) (l2 : AllLt cD ((tD, ot) :: R0)) (hR : R = cD ∨ ∀ p ∈ (cD, oc) :: (tD, ot) :: R0, p.1 < R) (hR2 : e = tD ∨ e = R ∨ ∀ p ∈ ex ++ (cD, oc) :: (tD, ot) :: R0, p.1 < e) : ∀ p ∈ R0, @LT.lt Nat _ p.1 e := by
  intro p hp
  rcases hR2 with rfl | rfl | h
  · exact kst_ltOf l1 p hp
  · rcases hR with rfl | h
    · exact kst_ltOf l2 p (.tail _ hp)
    · exact h p (.tail _ (.tail _ hp))
  · exact h p (List.mem_append_right _ (.tail _ (.tail _ hp)))
theorem row_end {tx : List Int} {h₀ : Heap} {L : Addr} {m : Str → Option Value} {s₂ : Shared} {I C D tD cD R e k1 k2 k3 k4 k5 : Addr} {o1 oC oc ot c1 c2 c3 c4 c5 : Obj} {ys zs : List Value} {B3 c ex ex2 : Led} {i n : Nat} {h' : Heap} {tk' : Nat}
    (hd : MadeD (fun k o => ∃ vs n, o = tupO vs n ∧ IntsAre vs (tx.drop k ++ List.replicate k 0)) ((k5, c5) :: (k4, c4) :: (k3, c3) :: (k2, c2) :: (k1, c1) :: B3) i c ys) (F : Fr h₀ L h' m)
    (N : News h₀ L h' (ex2 ++ (ex ++ (cD, oc) :: (tD, ot) :: (I, o1) :: (C, oC) :: (D, lst ys) :: (k1, c1) :: (k2, c2) :: (k3, c3) :: (k4, c4) :: (k5, c5) :: (c ++ B3))))
    (he : (e, tupO zs n) ∈ ex2 ++ (ex ++ (cD, oc) :: (tD, ot) :: (I, o1) :: (C, oC) :: (D, lst ys) :: (k1, c1) :: (k2, c2) :: (k3, c3) :: (k4, c4) :: (k5, c5) :: (c ++ B3))) (hI : IntsAre zs (List.take (tx.length - min i tx.length) (List.drop (min i tx.length) tx) ++ List.replicate i 0)) (ht : i ≤ tx.length)
    (l1 : AllLt tD ((I, o1) :: (C, oC) :: (D, lst ys) :: (k1, c1) :: (k2, c2) :: (k3, c3) :: (k4, c4) :: (k5, c5) :: (c ++ B3))) (l2 : AllLt cD ((tD, ot) :: (I, o1) :: (C, oC) :: (D, lst ys) :: (k1, c1) :: (k2, c2) :: (k3, c3) :: (k4, c4) :: (k5, c5) :: (c ++ B3)))
    (hR : R = cD ∨ ∀ p ∈ (cD, oc) :: (tD, ot) :: (I, o1) :: (C, oC) :: (D, lst ys) :: (k1, c1) :: (k2, c2) :: (k3, c3) :: (k4, c4) :: (k5, c5) :: (c ++ B3), p.1 < R)
    (hR2 : e = tD ∨ e = R ∨ ∀ p ∈ ex ++ (cD, oc) :: (tD, ot) :: (I, o1) :: (C, oC) :: (D, lst ys) :: (k1, c1) :: (k2, c2) :: (k3, c3) :: (k4, c4) :: (k5, c5) :: (c ++ B3), p.1 < e)
    (ap : Apart (c ++ ((k5, c5) :: (k4, c4) :: (k3, c3) :: (k2, c2) :: (k1, c1) :: B3)) [I] D [C]) :
    CEnd2 h₀ L m s₂ [(I, o1)] [(C, oC)] [I] D [C] ys (fun c : Led => c ++ ((k5, c5) :: (k4, c4) :: (k3, c3) :: (k2, c2) :: (k1, c1) :: B3)) (fun c' => MadeD (fun k o => ∃ vs n, o = tupO vs n ∧ IntsAre vs (tx.drop k ++ List.replicate k 0)) ((k5, c5) :: (k4, c4) :: (k3, c3) :: (k2, c2) :: (k1, c1) :: B3) (i + 1) c' (ys ++ [.ref e])) { s₂ with heap := h', toks := tk' } := by
  have lt := row_lt l1 l2 hR hR2
  refine made_end hd F N (fun p hp => ?_) he ⟨zs, n, rfl, ?_⟩ (fun p hp => lt p (perm5 p hp)) ap
  · exact List.mem_append_right _ (List.mem_append_right _ (.tail _ (.tail _ (perm5 p hp))))
  · have e1 : min i tx.length = i := by omega
    rw [e1, List.take_of_length_le (by simp)] at hI
    exact hI
/-- the rows of all the suffixes -/
def RowsIn (B : Led) (tx : List Int) (D : Addr) : Prop := ∃ ps : List Addr, (D, lst (ps.map Value.ref)) ∈ B ∧ ps.length = 7 ∧ ∀ (k : Nat) (p : Addr), ps[k]? = some p → ∃ vs n, (p, tupO vs n) ∈ B ∧ IntsAre vs (tx.drop k ++ List.replicate k 0)
theorem Cols.sub {B B' : Led} {x : Addr} (h : Cols B x) (hs : ∀ p ∈ B, p ∈ B') : Cols B' x := by
  obtain ⟨d, D, hs', t0, n1, n, ps, h1, h2, h3, h4, h5⟩ := h
  refine ⟨d, D, hs', t0, n1, n, ps, hs _ h1, hs _ h2, hs _ h3, h4, fun k p hp => ?_⟩
  obtain ⟨t, u, n, h⟩ := h5 k p hp
  exact ⟨t, u, n, hs _ h⟩
/-- the rows stand -/
theorem index_s2 {g h : Heap} {L : Nat} {x D : Addr} {tx : List Int} {ys : List Value} {o1 o2 o3 o4 o5 : Obj} {B3 base c news : Led}
    (N : News g L h ((D, lst ys) :: (c ++ base))) (hbase : base = (L + 1 + 1 + 1 + 1 + 1, o1) :: (L + 1 + 1 + 1 + 1, o2) :: (L + 1 + 1 + 1, o3) :: (L + 1 + 1, o4) :: (L + 1, o5) :: B3) (hd : MadeD (fun k o => ∃ vs n, o = tupO vs n ∧ IntsAre vs (tx.drop k ++ List.replicate k 0)) base 7 c ys)
    (hc : Cols B3 x) (e3 : Off B3 L (L + 1 + 1 + 1 + 1 + 1)) (l2 : ∀ p ∈ base, p.1 < D) (hn : ∀ p ∈ news, p ∈ B3) (hw : ∀ p ∈ B3, p ∈ news ∨ @LT.lt Nat _ L p.1) :
    ∃ B4, News g L h ((L + 1 + 1 + 1 + 1 + 1, o1) :: (L + 1 + 1 + 1 + 1, o2) :: (L + 1 + 1 + 1, o3) :: (L + 1 + 1, o4) :: (L + 1, o5) :: B4) ∧ Cols B4 x ∧ Off B4 L (L + 1 + 1 + 1 + 1 + 1) ∧ (∀ p ∈ news, p ∈ B4) ∧ RowsIn B4 tx D ∧ ∀ p ∈ B4, p ∈ news ∨ @LT.lt Nat _ L p.1 := by
  subst hbase
  obtain ⟨⟨ps, hl, rfl, hps⟩, hf⟩ := hd
  refine ⟨(D, lst (ps.map Value.ref)) :: (c ++ B3), News.sub N (fun p hp => ?_), hc.sub fun p hp => .tail _ (List.mem_append_right _ hp), fun p hp => ?_, fun p hp => .tail _ (List.mem_append_right _ (hn p hp)), ⟨ps, .head _, hl, fun k p hp => ?_⟩, fun p hp => ?_⟩
  · simp only [List.mem_append, List.mem_cons] at hp ⊢
    rcases hp with h | h | h | h | h | h | h | h <;> simp [h]
  · rcases List.mem_cons.mp hp with rfl | hp
    · exact .inr (l2 _ (.head _))
    · rcases List.mem_append.mp hp with hp | hp
      · exact .inr (hf p hp _ (.head _))
      · exact e3 p hp
  · obtain ⟨o, h1, vs, n, rfl, h2⟩ := hps k p hp
    exact ⟨vs, n, .tail _ (List.mem_append_left _ h1), h2⟩
  · have lo : ∀ q : Addr, @LT.lt Nat _ (L + 1 + 1 + 1 + 1 + 1) q → @LT.lt Nat _ L q := fun q h => by omega
    rcases List.mem_cons.mp hp with rfl | hp
    · exact .inr (lo _ (l2 _ (.head _)))
    · rcases List.mem_append.mp hp with hp | hp
      · exact .inr (lo _ (hf p hp _ (.head _)))
      · exact hw p hp
theorem News.abs {h₀ h : Heap} {L : Addr} {l : Led} (N : News h₀ L h l) : ∃ NL, NL = l ∧ News h₀ L h NL := ⟨l, rfl, N⟩
/-- the row of a suffix -/
def rowL (tx : List Int) (k : Nat) : List Int := tx.drop k ++ List.replicate k 0
def rnkI (tx : List Int) (i : Nat) : Int := (((List.range 7).countP fun j => decide (cmpL (rowL tx j) (rowL tx i) < 0) : Nat) : Int)
def ltr (tx : List Int) (i : Nat) : Int := if i = 0 then 0 else tx.getD (i - 1) 0
def insr (ns : List Int) (x : Int) : List Int := insL ns (br ns x 0 ns.length).toNat x
def bkt (tx : List Int) (l : Int) : Nat → List Int
  | 0 => []
  | i + 1 => if ltr tx i = l then insr (bkt tx l i) (rnkI tx i) else bkt tx l i
def tly (tx : List Int) : Nat → List (Int × Int)
  | 0 => []
  | i + 1 => addC (tly tx i) [(ltr tx i, 1)]
def begI (tx : List Int) (l : Nat) : Int := ((dsub (tly tx 7) (fun k => decide (k < (l : Int)))).map (·.2)).sum
def rks (tx : List Int) (i : Nat) : List Int := (List.range i).map (rnkI tx)
theorem rnkI_le (tx : List Int) (i : Nat) : 0 ≤ rnkI tx i ∧ rnkI tx i ≤ 7 := by
  unfold rnkI
  have h := List.countP_le_length (p := fun j => decide (cmpL (rowL tx j) (rowL tx i) < 0)) (l := List.range 7)
  simp only [List.length_range] at h
  exact ⟨Int.natCast_nonneg _, by exact_mod_cast h⟩
/-- an octet of the text, known -/
theorem item_oct {prog : Program} {w : World} {A : Around} {E : Value → Shared → Prop} {s : Shared} {value slice : PySem.Expr} {b : Array UInt8} {t ui : Tok} {ks : List Int} {i v : Int} {Q : Value → Shared → Prop} (hk : KBw.bInts b = ks) (hfit : ks.length ≤ 1099511627776) (h0 : 0 ≤ i) (h1 : i < ks.length) (hv : ks.getD i.toNat 0 = v) (h : ∀ t k, Q (.int v t) { s with toks := k })
    (hs : subscripted slice false (.bytes b t) (.int i ui) = operate [.bytes b t, .int i ui] (getItem (.bytes b t) (.int i ui)) := by with_unfolding_all rfl)
    (ht : ∀ r, letTemporaryGo value (.bytes b t) r = pure () := by intro _; with_unfolding_all rfl) : wpAny (model prog w) A (subscriptTail value slice (.bytes b t) (.int i ui)) Q E s := by
  subst hv
  exact KBw.item_K hk hfit h0 h1 (fun t k _ _ => h t k) hs ht
theorem tel_n {w : World} {mean : ExcName → Option Value} {mg mb : Str → Option Value} {D U : Nat} {f : Addr} {vs : List Value} {kw : List (Str × Value)} {news : Led}
    {dp un : Nat} {gd : Option (List Code)} {cn : Str} {cs : Scope} {a : Addr} {ccd : Value} {cl : List (Str × Addr)} {outer : List Env} {A₀ : Around} {base h₀ : Heap} {L : Addr} {m : Str → Option Value} {s : Shared} {Q E : Value → Shared → Prop} {g : Obj → Led} {ms : List Int}
    (B : Below A₀ base outer h₀) (F : Fr h₀ L s.heap m) (X : (Mine.hd.heap_1 w.params).In h₀) (N : News h₀ L s.heap news) (T : Top Mine.hd.view_1 [Str.ofString "insort_right", Str.ofString "bisect_right", Str.ofString "bisect_left"] mean mg mb h₀) (hk : cs.kind = .function)
    (C : Tel w mean mg mb D U f vs kw news (fun r n => r = .none ∧ ∃ vs' n', n = g (PySem.W.listOf vs'.toArray n') ∧ IntsAre vs' ms)) (hd : dp + D < recursionLimit) (hu : un + U < cLine)
    (ret : ∀ vs' n' h' tk', Fr h₀ L h' m → News h₀ L h' (g (PySem.W.listOf vs'.toArray n')) → IntsAre vs' ms → Q .none { s with heap := h', toks := tk' }) :
    wpAny (model PySem.Challenge.rw_wf0032_01.row.prog w) (ktrTop dp un gd cn cs L a ccd cl outer) (call (.ref f) vs kw) Q E s :=
  tel_use B F X N T hk C hd hu fun r n h' tk' F' N' hp => by
    obtain ⟨rfl, vs', n', rfl, hi⟩ := hp
    exact ret vs' n' h' tk' F' N' hi
theorem words_I12 : True := by
  k_with "my:subscriptTail" => ((k_here; (with_reducible show wpAny _ _ (subscriptTail _ _ (Value.bytes _ _) (Value.int _ _)) _ _ _); (refine item_oct (by assumption) (by omega) (by omega) (by omega) (by assumption) ?_); intro _ _))
  k_with "my:call ref" => ((k_here; (with_reducible show wpAny _ _ (call (Value.ref 23) [Value.ref _, Value.int _ _] _) _ _ _); k_dflt (refine' tel_n ?Bₓ ?Fₓ ?Xₓ ?Nₓ ?Tₓ ?hkₓ (ins_tel _ _ _ _ _ _ _ _ _ _ _ _ ?Uₓ ?Iₓ ?bₓ) ?hdₓ ?huₓ ?_); (case Bₓ => k_asm); (case Fₓ => k_asm); (case Xₓ => k_asm); (case Nₓ => k_asm); (case Tₓ => k_asm); (case hkₓ => first | exact rfl | assumption); (case hdₓ => ktr_room); (case huₓ => ktr_units); (case Uₓ => k_updF); (case Iₓ => assumption); (case bₓ => assumption); intro vs9ₓ m9ₓ h9ₓ tk9ₓ F9ₓ N9ₓ i9ₓ; (try dsimp only at N9ₓ); (try dsimp only); (try k_fold)))
  k_with "my:subscriptTail" => ((k_here; (with_reducible show wpAny _ _ (subscriptTail _ _ (Value.ref _) (Value.int _ _)) _ _ _); (first | (refine' item_lit (j := 0) ?Nₓ ?mₓ ?eₓ ?kₓ ?zₓ ?_ ?sₓ; (case kₓ => exact rfl); (case Nₓ => k_asm); (case mₓ => (repeat (first | exact List.Mem.head _ | refine' List.Mem.tail _ ?_))); (case eₓ => exact rfl); (case zₓ => decide); (case sₓ => with_unfolding_all rfl)) | (refine' item_lit (j := 1) ?Nₓ ?mₓ ?eₓ ?kₓ ?zₓ ?_ ?sₓ; (case kₓ => exact rfl); (case Nₓ => k_asm); (case mₓ => (repeat (first | exact List.Mem.head _ | refine' List.Mem.tail _ ?_))); (case eₓ => exact rfl); (case zₓ => decide); (case sₓ => with_unfolding_all rfl)) | (refine' item_lit (j := 2) ?Nₓ ?mₓ ?eₓ ?kₓ ?zₓ ?_ ?sₓ; (case kₓ => exact rfl); (case Nₓ => k_asm); (case mₓ => (repeat (first | exact List.Mem.head _ | refine' List.Mem.tail _ ?_))); (case eₓ => exact rfl); (case zₓ => decide); (case sₓ => with_unfolding_all rfl)) | (refine' item_lit (j := 3) ?Nₓ ?mₓ ?eₓ ?kₓ ?zₓ ?_ ?sₓ; (case kₓ => exact rfl); (case Nₓ => k_asm); (case mₓ => (repeat (first | exact List.Mem.head _ | refine' List.Mem.tail _ ?_))); (case eₓ => exact rfl); (case zₓ => decide); (case sₓ => with_unfolding_all rfl)))))
  k_with "my:call builtin:list.append" => ((k_here; (with_reducible show wpAny _ _ (call (Value.builtin _) [Value.ref _, Value.int _ _]) _ _ _); k_dflt (refine' append_led ?Fₓ ?Nₓ ?Uₓ ?Iₓ ?zₓ ?_; (case Fₓ => k_asm); (case Nₓ => k_asm); (case Uₓ => k_updF); (case Iₓ => assumption); (case zₓ => (simp [rks]; omega))); intro h9ₓ vs9ₓ n9ₓ F9ₓ N9ₓ i9ₓ; (try dsimp only at N9ₓ)))
  k_with "my:subscriptTail Name Constant ref int" => ((k_here; (with_reducible show wpAny _ _ (subscriptTail _ _ (Value.ref _) (Value.int _ _)) _ _ _); (first | (refine' item_lit (j := 0) ?Nₓ ?mₓ ?eₓ ?kₓ ?zₓ ?_ ?sₓ; (case kₓ => exact rfl); (case Nₓ => k_asm); (case mₓ => (repeat (first | exact List.Mem.head _ | refine' List.Mem.tail _ ?_))); (case eₓ => exact rfl); (case zₓ => decide); (case sₓ => with_unfolding_all rfl)) | (refine' item_lit (j := 1) ?Nₓ ?mₓ ?eₓ ?kₓ ?zₓ ?_ ?sₓ; (case kₓ => exact rfl); (case Nₓ => k_asm); (case mₓ => (repeat (first | exact List.Mem.head _ | refine' List.Mem.tail _ ?_))); (case eₓ => exact rfl); (case zₓ => decide); (case sₓ => with_unfolding_all rfl)) | (refine' item_lit (j := 2) ?Nₓ ?mₓ ?eₓ ?kₓ ?zₓ ?_ ?sₓ; (case kₓ => exact rfl); (case Nₓ => k_asm); (case mₓ => (repeat (first | exact List.Mem.head _ | refine' List.Mem.tail _ ?_))); (case eₓ => exact rfl); (case zₓ => decide); (case sₓ => with_unfolding_all rfl)) | (refine' item_lit (j := 3) ?Nₓ ?mₓ ?eₓ ?kₓ ?zₓ ?_ ?sₓ; (case kₓ => exact rfl); (case Nₓ => k_asm); (case mₓ => (repeat (first | exact List.Mem.head _ | refine' List.Mem.tail _ ?_))); (case eₓ => exact rfl); (case zₓ => decide); (case sₓ => with_unfolding_all rfl)))))
  k_with "my:binaryOp Add ref ref" => ((k_here; (with_reducible show wpAny _ _ (binaryOp Operator.Add (Value.ref _) (Value.ref _)) _ _ _); k_dflt (refine' kmk_add_ints ?Fₓ ?Nₓ ?aₓ ?bₓ ?iₓ ?jₓ ?_ ?zₓ; (case Fₓ => k_asm); (case Nₓ => k_asm); (case aₓ => exact News.isList (by k_asm) (by (repeat (first | exact List.Mem.head _ | refine' List.Mem.tail _ ?_)))); (case bₓ => exact News.isList (by k_asm) (by (repeat (first | exact List.Mem.head _ | refine' List.Mem.tail _ ?_)))); (case iₓ => assumption); (case jₓ => assumption); (case zₓ => (simp only [List.length_append, sizeLine_eq]; omega))); intro Dₓ wsₓ hₓ Fₓ Nₓ l1ₓ hIₓ; (try k_lt l1ₓ)))
  trivial
theorem insL_len (ns : List Int) (k : Nat) (x : Int) : (insL ns k x).length ≤ ns.length + 1 := by
  unfold insL
  simp
  try omega
theorem bkt_len (tx : List Int) (l : Int) (i : Nat) : (bkt tx l i).length ≤ i := by
  induction i with
  | zero => simp [bkt]
  | succ i ih =>
    simp only [bkt]
    split
    · have := insL_len (bkt tx l i) (br (bkt tx l i) (rnkI tx i) 0 (bkt tx l i).length).toNat (rnkI tx i)
      unfold insr; omega
    · omega
theorem tly_len (tx : List Int) (i : Nat) : (tly tx i).length ≤ i := by
  induction i with
  | zero => simp [tly]
  | succ i ih =>
    have := addC_len (tly tx i) [(ltr tx i, 1)]
    simp only [tly, List.length_cons, List.length_nil] at this ⊢; omega
theorem pred_nat (i : Nat) : ((i : Int) - 1).toNat = i - 1 := by omega
theorem three_of {x : Int} (h1 : 1 ≤ x) (h2 : x ≤ 3) : x = 1 ∨ x = 2 ∨ x = 3 := by
  obtain ⟨n, rfl⟩ := Int.eq_ofNat_of_zero_le (Int.le_trans (by decide) h1)
  have h2 : n ≤ 3 := Int.ofNat_le.mp h2
  have h1 : 1 ≤ n := Int.ofNat_le.mp h1
  rcases n with _ | _ | _ | _ | n
  · exact absurd h1 (by decide)
  · exact .inl rfl
  · exact .inr (.inl rfl)
  · exact .inr (.inr rfl)
  · exact absurd h2 (Nat.not_le_of_gt (Nat.le_add_left 4 n))
theorem four_of {x : Int} (h0 : 0 ≤ x) (h2 : x ≤ 3) : x = 0 ∨ x = 1 ∨ x = 2 ∨ x = 3 := by
  by_cases h : x = 0
  · exact .inl h
  · exact .inr (three_of (Int.lt_iff_le_and_ne.mpr ⟨h0, Ne.symm h⟩) h2)
theorem le_four {l : Nat} (h : l ≤ 4) : l = 0 ∨ l = 1 ∨ l = 2 ∨ l = 3 ∨ l = 4 := by
  rcases l with _ | _ | _ | _ | _ | l
  · exact .inl rfl
  · exact .inr (.inl rfl)
  · exact .inr (.inr (.inl rfl))
  · exact .inr (.inr (.inr (.inl rfl)))
  · exact .inr (.inr (.inr (.inr rfl)))
  · exact absurd h (Nat.not_le_of_gt (Nat.le_add_left 5 l))
theorem letters {tx : List Int} (ht : tx.length = 6) (hr : ∀ x ∈ tx, 1 ≤ x ∧ x ≤ 3) {i : Nat} (hi : i < 7) : (i = 0 ∧ ltr tx i = 0) ∨ (0 < i ∧ tx.getD ((i : Int) - 1).toNat 0 = 1 ∧ ltr tx i = 1) ∨ (0 < i ∧ tx.getD ((i : Int) - 1).toNat 0 = 2 ∧ ltr tx i = 2) ∨ (0 < i ∧ tx.getD ((i : Int) - 1).toNat 0 = 3 ∧ ltr tx i = 3) := by
  unfold ltr
  by_cases h : i = 0
  · exact .inl ⟨h, by rw [if_pos h]⟩
  · rw [if_neg h, pred_nat]
    have h1 : i - 1 < tx.length := by rw [ht]; exact Nat.lt_of_le_of_lt (Nat.sub_le_sub_right (Nat.le_of_lt_succ hi) 1) (by decide)
    have h2 := hr _ (List.getElem_mem h1)
    rw [List.getD_eq_getElem?_getD, List.getElem?_eq_getElem h1, Option.getD_some]
    have hp := Nat.pos_of_ne_zero h
    rcases three_of h2.1 h2.2 with k | k | k
    · exact .inr (.inl ⟨hp, k, k⟩)
    · exact .inr (.inr (.inl ⟨hp, k, k⟩))
    · exact .inr (.inr (.inr ⟨hp, k, k⟩))
theorem dsub_len (c : List (Int × Int)) (pz : Int → Bool) : (dsub c pz).length ≤ c.length := by
  unfold dsub
  rw [List.length_map]
  exact Nat.le_trans (List.length_filter_le _ _) (by simp)
/-- what stands between the turns of _law_index's loop -/
structure IxS where
  v0 : List Value
  v1 : List Value
  v2 : List Value
  v3 : List Value
  vr : List Value
  n0 : Nat
  n1 : Nat
  n2 : Nat
  n3 : Nat
  nr : Nat
  d : Addr
  o : Obj
  c3 : Obj
  c5 : Obj
def ixL (L : Nat) (l0 l1 l2 l3 P K : Addr) (c1 c2 c4 : Obj) (B : Led) (q : IxS) : Led :=
  (K, PySem.W.listOf q.vr.toArray q.nr) :: (q.d, q.o) :: (P, PySem.W.listOf #[.ref l0, .ref l1, .ref l2, .ref l3] 0) :: (l3, PySem.W.listOf q.v3.toArray q.n3) :: (l2, PySem.W.listOf q.v2.toArray q.n2) :: (l1, PySem.W.listOf q.v1.toArray q.n1) :: (l0, PySem.W.listOf q.v0.toArray q.n0) ::
    (L + 1 + 1 + 1 + 1 + 1, q.c5) :: (L + 1 + 1 + 1 + 1, c4) :: (L + 1 + 1 + 1, q.c3) :: (L + 1 + 1, c2) :: (L + 1, c1) :: B
structure IxR (w : World) (tx : List Int) (L : Nat) (P K : Addr) (i : Nat) (q : IxS) : Prop where
  i0 : IntsAre q.v0 (bkt tx 0 i)
  i1 : IntsAre q.v1 (bkt tx 1 i)
  i2 : IntsAre q.v2 (bkt tx 2 i)
  i3 : IntsAre q.v3 (bkt tx 3 i)
  ir : IntsAre q.vr (rks tx i)
  id : DictIs w q.o (tly tx i)
  e5 : q.c5.data = .cell (some (.ref q.d))
  e3 : ∃ v, q.c3.data = .cell v
  lo : (q.d == sysModules) = false
  lp : @LT.lt Nat _ P q.d
  ne : q.d ≠ K
theorem bkt_hit {tx : List Int} {l : Int} {i : Nat} {v : List Value} (e : ltr tx i = l) (h : IntsAre v (insL (bkt tx l i) (br (bkt tx l i) (rnkI tx i) 0 (bkt tx l i).length).toNat (rnkI tx i))) : IntsAre v (bkt tx l (i + 1)) := by
  simp only [bkt, e, if_true]; exact h
theorem bkt_miss {tx : List Int} {l k : Int} {i : Nat} {v : List Value} (e : ltr tx i = k) (h : IntsAre v (bkt tx l i)) (n : k ≠ l) : IntsAre v (bkt tx l (i + 1)) := by
  simp only [bkt]; rw [if_neg (e ▸ n)]; exact h
theorem rks_snoc {tx : List Int} {i : Nat} {v : List Value} (h : IntsAre v (rks tx i ++ [rnkI tx i])) : IntsAre v (rks tx (i + 1)) := by
  unfold rks; rw [List.range_succ, List.map_append]; exact h
theorem tly_snoc {w : World} {tx : List Int} {i : Nat} {o : Obj} {l : Int} (e : ltr tx i = l) (h : DictIs w o (addC (tly tx i) [(l, 1)])) : DictIs w o (tly tx (i + 1)) := by
  simp only [tly, e]; exact h
theorem sub_ix {K dn e2 I dO : Addr × Obj} {rest : Led} : ∀ p ∈ K :: dn :: rest, p ∈ dn :: e2 :: I :: K :: dO :: rest := by
  intro p hp
  simp only [List.mem_cons] at hp ⊢
  rcases hp with h | h | h <;> simp [h]
theorem ix_turn {w : World} {tx : List Int} {g h' : Heap} {L : Nat} {l0 l1 l2 l3 P K d d0 I : Addr} {c1 c2 c3 c4 c5 o oI : Obj} {B all : Led} {v0 v1 v2 v3 vr : List Value} {n0 n1 n2 n3 nr i tk : Nat} {v : Option Value} {m₀ m' : Str → Option Value} {s₁ : Shared} {stored : List Str}
    (hi : i < 7) (F : Fr g L h' m') (N : News g L h' all) (hI : (I, oI) ∈ all) (i0 : IntsAre v0 (bkt tx 0 (i + 1))) (i1 : IntsAre v1 (bkt tx 1 (i + 1))) (i2 : IntsAre v2 (bkt tx 2 (i + 1))) (i3 : IntsAre v3 (bkt tx 3 (i + 1))) (ir : IntsAre vr (rks tx (i + 1))) (id : DictIs w o (tly tx (i + 1)))
    (e5 : c5.data = .cell (some (.ref d))) (e3 : c3.data = .cell v) (lo : (d == sysModules) = false) (lp : @LT.lt Nat _ P d) (ne : d ≠ K) (nI : d ≠ I)
    (lI : K < I ∧ d0 < I ∧ P < I ∧ l3 < I ∧ l2 < I ∧ l1 < I ∧ l0 < I ∧ @LT.lt Nat _ (L + 1 + 1 + 1 + 1 + 1) I ∧ @LT.lt Nat _ (L + 1 + 1 + 1 + 1) I ∧ @LT.lt Nat _ (L + 1 + 1 + 1) I ∧ @LT.lt Nat _ (L + 1 + 1) I ∧ @LT.lt Nat _ (L + 1) I ∧ AllLt I B)
    (hsub : ∀ p ∈ ixL L l0 l1 l2 l3 P K c1 c2 c4 B ⟨v0, v1, v2, v3, vr, n0, n1, n2, n3, nr, d, o, c3, c5⟩, p ∈ all)
    (hz : ∀ z, (∀ p ∈ ([] : List (Str × Value)), z ≠ p.1) → stored.contains z = false → m' z = m₀ z) :
    UnrEndW g L s₁ [(I, oI)] (fun m' n' => SubL [] n' ∧ Left (ixL L l0 l1 l2 l3 P K c1 c2 c4 B) (fun _ => []) stored m₀ (fun c' => ∃ j, j ≤ 7 ∧ rgI 7 (i + 1) = rgI 7 j ∧ IxR w tx L P K j c') m' n') { s₁ with heap := h', toks := tk } := by
  refine turn_end ⟨v0, v1, v2, v3, vr, n0, n1, n2, n3, nr, d, o, c3, c5⟩ F N hI hsub ?_ trivial ⟨i + 1, hi, rfl, i0, i1, i2, i3, ir, id, e5, ⟨v, e3⟩, lo, lp, ne⟩ (fun p hp => by cases hp) hz
  obtain ⟨q1, q2, q3, q4, q5, q6, q7, q8, q9, q10, q11, q12, q13⟩ := lI
  intro p hp
  simp only [ixL, List.mem_cons] at hp
  rcases hp with rfl | rfl | rfl | rfl | rfl | rfl | rfl | rfl | rfl | rfl | rfl | rfl | hp
  · exact Nat.ne_of_lt q1
  · exact nI
  · exact Nat.ne_of_lt q3
  · exact Nat.ne_of_lt q4
  · exact Nat.ne_of_lt q5
  · exact Nat.ne_of_lt q6
  · exact Nat.ne_of_lt q7
  · exact Nat.ne_of_lt q8
  · exact Nat.ne_of_lt q9
  · exact Nat.ne_of_lt q10
  · exact Nat.ne_of_lt q11
  · exact Nat.ne_of_lt q12
  · exact Nat.ne_of_lt (kst_ltOf q13 p hp)
set_option maxHeartbeats 40000000 in
theorem index_tel (w : World) (mean : ExcName → Option Value) (mg mb : Str → Option Value) (news : Led) (b : Array UInt8) (tx : List Int) (t1 : Tok) (hb : KBw.bInts b = tx) (ht : tx.length = 6) (hr : ∀ x ∈ tx, 1 ≤ x ∧ x ≤ 3) :
    Tel w mean mg mb 5 100 95 [.bytes b t1] [] news (fun r news' => ∃ ix, r = .ref ix ∧ (∀ p ∈ news, p ∈ news') ∧ (∀ p ∈ news', p ∈ news ∨ ∀ q ∈ news, q.1 < p.1) ∧
      IdxAt news' ix (bkt tx 0 7 ++ bkt tx 1 7 ++ bkt tx 2 7 ++ bkt tx 3 7) ((List.range 5).map (begI tx)) (rks tx 7)) := by
  w_top off
  unfold Tel
  k_fill
  intro dp un gd cn cs a ccd cl outer A₀ base h₀ L m s Q E B F X N T hk hdd hu hret
  refine wpAny_call ?_
  k_dflt cell_enter
  refine wpAny_noRaise ?_
  rename_i o1 o2 o3 o4 o5 d1 d2 d3 d4 d5
  refine wp_abs fun Q0 hQ0 => ?_
  have hnl : ∀ p ∈ news, @LT.lt Nat _ p.1 L1 := l1
  k_steps
  rename Fr _ _ _ _ => F1
  rename News _ _ _ _ => N1
  rename IsRange _ _ _ _ _ _ _ _ => R1
  obtain ⟨base, hbase⟩ : ∃ base : Led, base = (L1 + 1 + 1 + 1 + 1 + 1, o1) :: (L1 + 1 + 1 + 1 + 1, o2) :: (L1 + 1 + 1 + 1, o3) :: (L1 + 1 + 1, o4) :: (L1 + 1, o5) :: news := ⟨_, rfl⟩
  refine comp_range2 (n := 6) _ (σ := Led) (fun c => c ++ base) [] (ColsD base) (by rfl) F1 N1 R1 (by rfl) (by decide) (by rw [hbase]; rfl) (fun _ _ => rfl) (asg_plain (V := fun i v => ∃ t, v = .int (i : Nat) t) (by rfl) (by rfl) fun i v h _ hP => hP.2) ⟨⟨[], rfl, rfl, fun k p hp => by simp at hp⟩, fun p hp => by cases hp⟩ ?_ ?_
  · rintro s₂ I lI ⟨h2, tk2, rfl⟩
    refine turn_plain (by decide) ?_
    rintro i c ys C D oC m₂ v h tk E' hi hd9 hx913 hb9 hoC F2 ap hws hDC
    refine allObj1 fun o1 c1 N2 => ?_
    refine tst_abs fun P9 P8 hP9 hP8 => ?_
    refine goal_abs fun hG9 => ?_
    obtain ⟨t, rfl⟩ := hx913
    simp only [List.cons_append, List.nil_append] at N2
    refine hG9 ?_
    clear hG9
    show wpAny _ _ _ _ _ _
    k_steps
    subst hP9
    rename _ ∧ _ ∧ _ ∧ AllLt _ _ => l0
    exact cols_end hd9 (by assumption) (by assumption) l0 ap
  · rintro c ys h tk hx94
    intro D h' tk' F2 N2 l2 l3
    refine goal_abs fun hG9 => ?_
    obtain ⟨⟨ps, hl, rfl, hps⟩, hf⟩ := hx94
    subst hbase
    have e1 : Off (c ++ news) L1 (L1 + 1 + 1 + 1 + 1 + 1) := fun p hp => by
      rcases List.mem_append.mp hp with hp | hp
      · exact .inr (hf p hp _ (.head _))
      · exact .inl (l1 p hp)
    have N3 := News.sub N2 (l' := (D, lst (ps.map Value.ref)) :: (L1 + 1 + 1 + 1 + 1 + 1, o1) :: (L1 + 1 + 1 + 1 + 1, o2) :: (L1 + 1 + 1 + 1, o3) :: (L1 + 1 + 1, o4) :: (L1 + 1, o5) :: (c ++ news)) (sub_cons (app_front [_, _, _, _, _] c))
    have c1 : ∀ (k : Nat) (p : Addr), ps[k]? = some p → ∃ t u n, (p, tupO [.int (k : Nat) t, .int 1 u] n) ∈ c ++ news := fun k p hp => by
      obtain ⟨t, u, n, h⟩ := hps k p hp
      exact ⟨t, u, n, List.mem_append_left _ h⟩
    have l4 : @LT.lt Nat _ (L1 + 1 + 1 + 1 + 1 + 1) D := l2 _ (.head _)
    have n1 : ∀ p ∈ news, p ∈ c ++ news := fun p hp => List.mem_append_right _ hp
    have nw1 : ∀ p ∈ c ++ news, p ∈ news ∨ @LT.lt Nat _ L1 p.1 := fun p hp => by
      rcases List.mem_append.mp hp with hp | hp
      · have h1 : @LT.lt Nat _ (L1 + 1 + 1 + 1 + 1 + 1) p.1 := hf p hp _ (.head _)
        exact .inr (by omega)
      · exact .inl hp
    generalize c ++ news = B2 at N3 e1 c1 n1 nw1
    clear N2 l2 l3 hps hf N1 F1
    refine hG9 ?_
    clear hG9
    k_steps
    rename Fr g1 L1 _ _ => F4
    rename News g1 L1 _ _ => N4
    rename IsRange _ _ _ _ _ _ _ _ => R4
    refine goal_abs fun hG9 => ?_
    obtain ⟨B3, base, hbase, N5, hc, e3, n3, nw3⟩ := index_s1 N4 hl c1 e1 l4 (by first | assumption | exact And.left (by assumption)) (by assumption) n1 nw1
    clear N4 e1 c1 n1 nw1
    refine hG9 ?_
    clear hG9
    refine comp_range2 (n := 7) _ (σ := Led) (fun c => c ++ base) [] (MadeD (fun k o => ∃ vs n, o = tupO vs n ∧ IntsAre vs (tx.drop k ++ List.replicate k 0)) base) (by rfl) F4 N5 R4 (by rfl) (by decide) rfl (fun _ _ => rfl) (asg_plain (V := fun i v => ∃ t, v = .int (i : Nat) t) (by rfl) (by rfl) fun i v h _ hP => hP.2) made_nil ?_ ?_
    · rintro s₂ I lI ⟨h2, tk2, rfl⟩
      refine turn_plain (by decide) ?_
      rintro i c ys C D oC m₂ v h tk E' hi hd9 hx913 hb9 hoC F2 ap hws hDC
      refine allObj1 fun o1 c1 N2 => ?_
      refine tst_abs fun P9 P8 hP9 hP8 => ?_
      refine goal_abs fun hG9 => ?_
      obtain ⟨t, rfl⟩ := hx913
      subst hbase
      simp only [List.cons_append, List.nil_append] at N2
      have N3 := News.sub N2 (l' := (I, o1) :: (C, oC) :: (D, lst ys) :: (L1 + 1, o5) :: (L1 + 1 + 1, _) :: (L1 + 1 + 1 + 1, o3) :: (L1 + 1 + 1 + 1 + 1, o2) :: (L1 + 1 + 1 + 1 + 1 + 1, _) :: (c ++ B3)) perm5r
      clear N2
      refine hG9 ?_
      clear hG9
      show wpAny _ _ _ _ _ _
      k_steps
      subst hP9
      exact row_end hd9 (by assumption) (by assumption) (by assumption) (by assumption) (by omega) (by assumption) (by assumption) (by assumption) (by assumption) ap
    · rintro c ys h tk hd9
      intro D h' tk' F2 N2 l2 l3
      refine goal_abs fun hG9 => ?_
      obtain ⟨B4, N6, hc4, e4, n4, hr4, nw4⟩ := index_s2 N2 hbase hd9 hc e3 l2 n3 nw3
      clear hd9 N5 N2 hbase l2 l3 hc e3 n3 nw3 R4 F4
      refine hG9 ?_
      clear hG9
      k_steps
      rename_i l0 _ q0 l1 _ q1 l2 _ q2 l3 _ q3 P _ qP d _ od lo hsd fsd hid fid qd K _ qK D' _ qD _ _ _ oT dT _ F7 N7
      refine For_turns F7 ?_
      k_steps
      rename Fr _ _ _ _ => F9
      rename News _ _ _ _ => N9
      rename IsRange _ _ _ _ _ _ _ _ => R9
      refine iter_rangeItems (n := 7) (by rfl) F9 (News.sub N9 fun p hp => .tail _ hp) R9 (by rfl) (by decide) (fun _ _ => rfl) fun I lI => ?_
      k_lt lI
      refine range_cell (ixL L1 l0 l1 l2 l3 P K _ _ _ B4) (fun _ => []) [Str.ofString "rank", Str.ofString "letter"] (IxR w tx L1 P K) ⟨[], [], [], [], [], 0, 0, 0, 0, 0, d, od, _, oT⟩ (by rfl) (by kst_all) ⟨.nil, .nil, .nil, .nil, .nil, ⟨_, hid, fid⟩, dT, ⟨_, by assumption⟩, lo, And.left qd, Nat.ne_of_lt (And.left qK)⟩ ?_ ?_
      · rintro i q u t h tk hi hx97 F1
        refine goal_abs fun hG9 => ?_
        obtain ⟨i0, i1, i2, i3, ir, ⟨kvd, id1, id2⟩, e5, ⟨w3, e3⟩, lo9, lp9, ne9⟩ := hx97
        obtain ⟨v0, v1, v2, v3, vr, n0, n1, n2, n3, nr, d, o, c3, c5⟩ := q
        refine hG9 ?_
        clear hG9
        refine allObj1 fun oI hI N1 => ?_
        dsimp only [ixL, List.cons_append, List.nil_append] at N1 i0 i1 i2 i3 ir id1 id2 e5 e3 lo9 lp9 ne9
        change Fr g1 L1 _ _ at F1
        change News g1 L1 _ _ at N1
        clear F9 N9 R9 hsd fsd hid fid lo
        refine turn_abs fun Q9 hQ9 => ?_
        k_steps
        refine goal_abs fun hG9 => ?_
        obtain ⟨ps, hD, hl7, hps⟩ := hr4
        refine hG9 ?_
        clear hG9
        rename Fr g1 L1 _ _ => F2
        rename News g1 L1 _ _ => N2
        refine comp_list2 _ (σ := Unit) (fun _ => _) () (fun j _ ys => ys.length = (List.range j).countP fun k => decide (cmpL (rowL tx k) (rowL tx i) < 0)) (by rfl) F2 N2 (vs := ps.map Value.ref) (ol := lst (ps.map Value.ref)) (N2.isList (by (repeat (first | assumption | refine' List.Mem.tail _ ?_)))) (.inl (by (repeat (first | assumption | refine' List.Mem.tail _ ?_)))) (fun _ _ _ _ h => h) (by simp [hl7, sizeLine_eq]) rfl
          (fun _ _ => rfl) (asg_plain (V := fun i v => (ps.map Value.ref)[i]? = some v) (by rfl) (by rfl) fun i v h _ hP => hP) rfl ?_ ?_
        · --[1
          rintro s₂ I2 lI2 ⟨h2, tk2, rfl⟩
          refine turn_plain (by decide) ?_
          rintro j c ys C Dl oC m₂ v h tk E' hj hd9 hv hb9 hoC F2 ap hws hDC
          refine allObj1 fun o1 c1 N3 => ?_
          refine tst_abs fun P9 P8 hP9 hP8 => ?_
          refine goal_abs fun hG9 => ?_
          simp only [List.cons_append, List.nil_append] at N3
          obtain ⟨p, hp, rfl⟩ : ∃ p, ps[j]? = some p ∧ Value.ref p = v := by simpa using hv
          obtain ⟨q, hq⟩ : ∃ q, ps[i]? = some q := ⟨ps[i]'(by rw [hl7]; exact hi), List.getElem?_eq_getElem _⟩
          obtain ⟨vp, np, hmp, hIp⟩ := hps j p hp
          obtain ⟨vq, nq, hmq, hIq⟩ := hps i q hq
          obtain ⟨NL, hNL, N4⟩ := News.abs N3
          clear N3
          have sB : ∀ p ∈ B4, p ∈ NL := fun p hp => by rw [hNL]; (repeat (first | assumption | refine' List.Mem.tail _ ?_))
          obtain ⟨oS, mS, eS⟩ : ∃ o, (L1 + 1 + 1 + 1, o) ∈ NL ∧ o.data = Data.cell (some (.int (i : Nat) t)) := ⟨_, by rw [hNL]; (repeat (first | exact List.Mem.head _ | refine' List.Mem.tail _ ?_)), by assumption⟩
          obtain ⟨oR, mR, eR⟩ : ∃ o, (L1 + 1 + 1 + 1 + 1, o) ∈ NL ∧ o.data = Data.cell (some (.ref D)) := ⟨_, by rw [hNL]; (repeat (first | exact List.Mem.head _ | refine' List.Mem.tail _ ?_)), by assumption⟩
          obtain ⟨x9, oJ, mJ, eJ, hc9⟩ : ∃ x o, (L1 + 1 + 1, o) ∈ NL ∧ o.data = Data.cell (some (.ref x)) ∧ Cols NL x := ⟨_, _, by rw [hNL]; (repeat (first | exact List.Mem.head _ | refine' List.Mem.tail _ ?_)), by assumption, hc4.sub sB⟩
          have hD9 := sB _ hD
          have hmp9 := sB _ hmp
          have hmq9 := sB _ hmq
          have hCm : (C, oC) ∈ NL := by rw [hNL]; (repeat (first | exact List.Mem.head _ | refine' List.Mem.tail _ ?_))
          have hj7 : j < 7 := by simpa [hl7] using hj
          have hlp : (tx.drop j ++ List.replicate j 0).length = 6 := by simp only [List.length_append, List.length_drop, List.length_replicate]; omega
          have hlq : (tx.drop i ++ List.replicate i 0).length = 6 := by simp only [List.length_append, List.length_drop, List.length_replicate]; omega
          obtain ⟨jd, lc, hs9, t9, n91, n92, ps9, hj9, hjd9, _⟩ := id hc9
          clear q0 q1 q2 q3 qP qd qK qD lI i0 i1 i2 i3 ir id1 id2 e5 e3 lo9 lp9 ne9 N2 dT hc4 e4 n4 hps hD hmp hmq
          refine hG9 ?_
          clear hG9
          show wpAny _ _ _ _ _ _
          k_steps
          all_goals (subst hP9; subst hP8)
          · exact cend_same () (by assumption) (by assumption) (fun p hp => by rw [hNL]; exact hp) ap (by
              show (ys ++ [_]).length = _
              rw [List.range_succ, List.countP_append, List.length_append, hd9]
              simp [rowL]
              first | assumption | exact decide_eq_true (by assumption) | exact Bool.eq_true_of_not_eq_false (by assumption))
          · exact cend_same () (by assumption) (by assumption) (fun p hp => by rw [hNL]; exact hp) ap (by
              show ys.length = _
              rw [List.range_succ, List.countP_append, hd9]
              simp [rowL]
              first | assumption | exact decide_eq_false (by assumption) | exact Bool.eq_false_of_not_eq_true (by assumption))
        --]1
        · rintro c ys h tk hd9
          intro Dr h' tk' F3 N3 lr1 lr2
          k_lt lr1
          have hyl : (ys.length : Int) = rnkI tx i := by
            rw [show ys.length = _ from hd9]
            simp only [List.length_map, hl7]; rfl
          k_steps
          have hrk := rnkI_le tx i
          refine kun_lenL (k := rnkI tx i) (News.isList (by assumption) (.head _)) (by simpa using hyl) (by omega) ?_
          clear hyl hD hps
          have bl0 : (bkt tx 0 i).length ≤ 900 := Nat.le_trans (bkt_len _ _ _) (by omega)
          have bl1 : (bkt tx 1 i).length ≤ 900 := Nat.le_trans (bkt_len _ _ _) (by omega)
          have bl2 : (bkt tx 2 i).length ≤ 900 := Nat.le_trans (bkt_len _ _ _) (by omega)
          have bl3 : (bkt tx 3 i).length ≤ 900 := Nat.le_trans (bkt_len _ _ _) (by omega)
          have bt : (tly tx i).length ≤ 100 := Nat.le_trans (tly_len _ _) (by omega)
          --[2
          walk1
          rename Fr g1 L1 _ _ => F4
          rename News g1 L1 _ _ => N4
          refine goal_abs fun hG9 => ?_
          obtain ⟨M4, hM4, F5⟩ := Fr.abs F4
          obtain ⟨NL, hNL, N5⟩ := News.abs N4
          obtain ⟨CT, hE⟩ : ∃ CT : Led, NL = (Dr, lst ys) :: (I, oI) :: (K, PySem.W.listOf vr.toArray nr) :: (d, o) :: (P, PySem.W.listOf #[.ref l0, .ref l1, .ref l2, .ref l3] 0) :: (l3, PySem.W.listOf v3.toArray n3) :: (l2, PySem.W.listOf v2.toArray n2) :: (l1, PySem.W.listOf v1.toArray n1) :: (l0, PySem.W.listOf v0.toArray n0) :: CT := ⟨_, hNL⟩
          obtain ⟨oS, mS, eS⟩ : ∃ o, (L1 + 1 + 1 + 1, o) ∈ NL ∧ o.data = Data.cell (some (.int (i : Nat) t)) := ⟨_, by rw [hNL]; (repeat (first | exact List.Mem.head _ | refine' List.Mem.tail _ ?_)), by assumption⟩
          obtain ⟨lv, hlv⟩ : ∃ lv, ltr tx i = lv := ⟨_, rfl⟩
          have l03 := letters ht hr hi
          rw [hlv] at l03
          (try clear F3); (try clear N3); (try clear N4); (try clear F4)
          refine hG9 ?_
          clear hG9
          refine execs_cut (fun s' => ∃ h' tk' tL, s' = { s with heap := h', toks := tk' } ∧ Fr g1 L1 h' (fun y => if y = Str.ofString "letter" then some (.int lv tL) else M4 y) ∧ News g1 L1 h' NL) ?_ ?_
          · subst hM4
            clear hE mS l03
            subst hNL
            rcases Nat.eq_zero_or_pos i with h0 | h0
            · have e2 : lv = 0 := by rw [← hlv]; unfold ltr; rw [if_pos h0]
              subst e2
              k_steps
              rename Fr g1 L1 _ _ => F9
              rename News g1 L1 _ _ => N9
              exact ⟨rfl, _, _, _, rfl, F9, N9⟩
            · have e2 : tx.getD ((i : Int) - 1).toNat 0 = lv := by
                rw [← hlv]
                unfold ltr
                rw [if_neg (Nat.ne_of_gt h0), pred_nat]
              k_steps
              rename Fr g1 L1 _ _ => F9
              rename News g1 L1 _ _ => N9
              exact ⟨rfl, _, _, _, rfl, F9, N9⟩
          · rintro s' hx91
            refine goal_abs fun hG9 => ?_
            obtain ⟨h5, tk5, tL, rfl, F6, N6⟩ := hx91
            rw [hE] at N6
            refine hG9 ?_
            clear hG9
            refine execs_cut (fun s' => ∃ h' tk' w0 w1 w2 w3 m0 m1 m2 m3, s' = { s with heap := h', toks := tk' } ∧ Fr g1 L1 h' (fun y => if y = Str.ofString "letter" then some (.int lv tL) else M4 y) ∧
              News g1 L1 h' ((I, oI) :: (K, PySem.W.listOf vr.toArray nr) :: (d, o) :: (P, PySem.W.listOf #[.ref l0, .ref l1, .ref l2, .ref l3] 0) :: (l3, PySem.W.listOf w3.toArray m3) :: (l2, PySem.W.listOf w2.toArray m2) :: (l1, PySem.W.listOf w1.toArray m1) :: (l0, PySem.W.listOf w0.toArray m0) :: CT) ∧ IntsAre w0 (bkt tx 0 (i + 1)) ∧ IntsAre w1 (bkt tx 1 (i + 1)) ∧ IntsAre w2 (bkt tx 2 (i + 1)) ∧ IntsAre w3 (bkt tx 3 (i + 1))) ?_ ?_
            · clear mS
              rw [hNL] at hE
              simp only [List.cons.injEq, true_and] at hE
              subst hE
              subst hM4
              rcases l03 with ⟨_, e1⟩ | ⟨_, _, e1⟩ | ⟨_, _, e1⟩ | ⟨_, _, e1⟩
              · subst e1
                (try clear N5); (try clear F5)
                k_steps
                rename IntsAre _ (insL _ _ _) => iv
                rename Fr g1 L1 _ _ => F9
                rename News g1 L1 _ _ => N9
                exact ⟨rfl, _, _, _, _, _, _, _, _, _, _, rfl, F9, News.sub N9 (fun p hp => .tail _ hp), bkt_hit hlv iv, bkt_miss hlv i1 (by decide), bkt_miss hlv i2 (by decide), bkt_miss hlv i3 (by decide)⟩
              · subst e1
                (try clear N5); (try clear F5)
                k_steps
                rename IntsAre _ (insL _ _ _) => iv
                rename Fr g1 L1 _ _ => F9
                rename News g1 L1 _ _ => N9
                exact ⟨rfl, _, _, _, _, _, _, _, _, _, _, rfl, F9, News.sub N9 (fun p hp => .tail _ hp), bkt_miss hlv i0 (by decide), bkt_hit hlv iv, bkt_miss hlv i2 (by decide), bkt_miss hlv i3 (by decide)⟩
              · subst e1
                (try clear N5); (try clear F5)
                k_steps
                rename IntsAre _ (insL _ _ _) => iv
                rename Fr g1 L1 _ _ => F9
                rename News g1 L1 _ _ => N9
                exact ⟨rfl, _, _, _, _, _, _, _, _, _, _, rfl, F9, News.sub N9 (fun p hp => .tail _ hp), bkt_miss hlv i0 (by decide), bkt_miss hlv i1 (by decide), bkt_hit hlv iv, bkt_miss hlv i3 (by decide)⟩
              · subst e1
                (try clear N5); (try clear F5)
                k_steps
                rename IntsAre _ (insL _ _ _) => iv
                rename Fr g1 L1 _ _ => F9
                rename News g1 L1 _ _ => N9
                exact ⟨rfl, _, _, _, _, _, _, _, _, _, _, rfl, F9, News.sub N9 (fun p hp => .tail _ hp), bkt_miss hlv i0 (by decide), bkt_miss hlv i1 (by decide), bkt_miss hlv i2 (by decide), bkt_hit hlv iv⟩
            · rintro s' hx91
              refine goal_abs fun hG9 => ?_
              obtain ⟨h6, tk6, w0, w1, w2, w3, m0, m1, m2, m3, rfl, F7, N7, j0, j1, j2, j3⟩ := hx91
              rw [hNL] at hE
              simp only [List.cons.injEq, true_and] at hE
              subst hE
              subst hM4
              (try clear l03); (try clear mS); (try clear hNL); (try clear N5); (try clear N6); (try clear F6); (try clear F5); (try clear i0); (try clear i1); (try clear i2); (try clear i3)
              refine hG9 ?_
              clear hG9
              k_steps
              rename IntsAre _ (rks _ _ ++ _) => irr
              rename FlatPairs PyData.int _ (kdfD (addC _ _)) => hf9
              rename Obj.IsDictOf _ _ _ => hd9
              rename (_ == sysModules) = false => lo9
              rename Obj.data _ = Data.cell (some (Value.ref _)) => e5n
              rename Fr g1 L1 _ _ => F9
              rename News g1 L1 _ _ => N9
              clear eS
              rename Obj.data _ = Data.cell (some (Value.int _ _)) => e3n
              subst hQ9
              exact ix_turn hi F9 N9 (.tail _ (.tail _ (.head _))) j0 j1 j2 j3 (rks_snoc irr) (tly_snoc hlv ⟨_, hd9, hf9⟩) e5n e3n lo9 (by omega) (by k_ne) (by k_ne) lI sub_ix (by ksw_same)
          --]2
      · rintro q u h tk hx94 F1 N1
        refine goal_abs fun hG9 => ?_
        obtain ⟨i0, i1, i2, i3, ir, ⟨kvd, id1, id2⟩, e5, ⟨w3, e3⟩, lo9, lp9, ne9⟩ := hx94
        obtain ⟨v0, v1, v2, v3, vr, n0, n1, n2, n3, nr, d, o, c3, c5⟩ := q
        dsimp only [ixL] at N1 i0 i1 i2 i3 ir id1 id2 e5 e3 lo9 lp9 ne9
        change Fr g1 L1 _ _ at F1
        change News g1 L1 _ _ at N1
        clear F9 N9 R9 hsd fsd hid fid lo
        have bl0 : (bkt tx 0 7).length ≤ 7 := bkt_len _ _ _
        have bl1 : (bkt tx 1 7).length ≤ 7 := bkt_len _ _ _
        have bl2 : (bkt tx 2 7).length ≤ 7 := bkt_len _ _ _
        have bl3 : (bkt tx 3 7).length ≤ 7 := bkt_len _ _ _
        have bt : (tly tx 7).length ≤ 100 := Nat.le_trans (tly_len _ _) (by omega)
        refine hG9 ?_
        clear hG9
        k_steps
        refine comp_assign2 (ownCell _ [(_, _)] _ (Str.ofString "limit") rfl (by decide) (by decide)) (by k_asm) (by rfl) (by with_unfolding_all rfl) (by with_unfolding_all rfl) (by rfl) (by decide) (by rfl) (by rfl) ?_
        k_steps
        rename Fr g1 L1 _ _ => F5
        rename News g1 L1 _ _ => N5
        rename IsRange _ _ _ _ _ _ _ _ => R5
        refine comp_range2 (n := 5) _ (σ := Unit) (fun _ => _) () (fun i _ ys => IntsAre ys ((List.range i).map (begI tx))) (by rfl) F5 N5 R5 (by rfl) (by decide) rfl (fun _ _ => rfl) (asg_cell (V := fun i v => ∃ t, v = .int (i : Nat) t) (by rfl) (by rfl) (fun C => rfl) fun i v h _ hP => hP.2) .nil ?_ ?_
        · --[3
          rintro s₂ I2 lI2 ⟨h2, tk2, rfl⟩
          rintro j c ys C Dl own h tk E' hj hd9 hx911 ho9 F2 ap hws hDl hDC
          refine allObj1 fun o1 c1 N3 => ?_
          refine tst_abs fun P9 P8 hP9 hP8 => ?_
          refine goal_abs fun hG9 => ?_
          obtain ⟨oC, m', oc, v, rfl, hns, ⟨t9, rfl⟩, hoc⟩ := hx911
          simp only [List.cons_append, List.nil_append] at N3
          obtain ⟨NL, hNL, N4⟩ := News.abs N3
          clear N3
          have mT : (L1 + 1 + 1 + 1 + 1 + 1, c5) ∈ NL := by rw [hNL]; (repeat (first | exact List.Mem.head _ | refine' List.Mem.tail _ ?_))
          have md : (d, o) ∈ NL := by rw [hNL]; (repeat (first | exact List.Mem.head _ | refine' List.Mem.tail _ ?_))
          have mC1 : (C + 1, oc) ∈ NL := by rw [hNL]; (repeat (first | exact List.Mem.head _ | refine' List.Mem.tail _ ?_))
          have mC : (C, oC) ∈ NL := by rw [hNL]; (repeat (first | exact List.Mem.head _ | refine' List.Mem.tail _ ?_))
          have hj5 : j < 5 := hj
          have bs : (dsub (tly tx 7) (fun k => decide (k < (j : Int)))).length ≤ 100 := Nat.le_trans (dsub_len _ _) bt
          clear q0 q1 q2 q3 qP qd qK qD lI i0 i1 i2 i3 ir e3 lp9 ne9 dT hc4 e4 n4 bl0 bl1 bl2 bl3 hr4
          refine hG9 ?_
          clear hG9
          show wpAny _ _ _ _ _ _
          k_steps
          rename Fr g1 L1 _ _ => F6
          rename News g1 L1 _ _ => N6
          refine dcomp_keys (fun k => decide (k < (j : Int))) (by rfl) F6 N6 (Top.nolimit T1) md id1 id2 (by omega) lo9 (by decide) (by rfl) (by rfl) ?_ ?_ ?_ ?_
          · intro C2 m₃ k t3 s₃ E3 hk3 hm3 hns3 F3 N3
            obtain ⟨hp3, gn3, dr3, tk3, os3⟩ := s₃
            walk1
            refine nm_local (by decide) (by rfl) (by rfl) hns3 hm3 ?_
            refine nm_cell (by decide) (by rfl) (by rfl) (by rfl) N3 mC1 hoc ?_
            walk1
            walk1
            exact ⟨rfl, _, _, rfl, fun _ _ e => e⟩
          · intro C2 m₃ k t3 s₃ E3 hk3 hm3 hns3 F3 N3
            exact nm_local (by decide) (by rfl) (by rfl) hns3 hm3 ⟨⟨_, rfl⟩, _, _, rfl, fun _ _ e => e⟩
          · intro C2 m₃ k t3 s₃ E3 hk3 hm3 hns3 F3 N3
            obtain ⟨hp3, gn3, dr3, tk3, os3⟩ := s₃
            walk1
            refine nm_cell (by decide) (by rfl) (by rfl) (by rfl) N3 mT e5 ?_
            refine nm_local (by decide) (by rfl) (by rfl) hns3 hm3 ?_
            exact item_dict N3 md id1 id2 lo9 hk3 (fun t => ⟨⟨t, rfl⟩, _, _, rfl, fun _ _ e => e⟩)
          · intro Dd h7 tk7 o7 kvs7 F7 N7 l7 hd7 hf7 lo7
            walk1
            walk1
            k_dflt (refine' tel_i ?B ?F ?X ?N ?T ?hk (cc_tel _ _ _ _ _ _ _ _ _ (.head _) hd7 hf7 bs lo7) ?hd ?hu ?_)
            case B => k_asm
            case F => k_asm
            case X => k_asm
            case N => k_asm
            case T => k_asm
            case hk => first | exact rfl | assumption
            case hd => ktr_room
            case hu => ktr_units
            intro t9 h9 tk9 F9 N9
            subst hP9
            exact cend_same () F9 N9 (fun p hp => .tail _ (by rw [hNL]; exact hp)) ap (by
              show IntsAre (ys ++ [_]) _
              rw [List.range_succ, List.map_append]
              exact hd9.append (.cons _ _ .nil))
        --]3
        · rintro c ys h tk hd9
          intro Db h' tk' F6 N6 lb1 lb2
          k_lt lb1
          subst hQ0
          k_steps
          rename Fr h₀ L _ _ => FE
          rename News h₀ L _ _ => NE
          refine hret _ _ _ _ FE NE ⟨_, rfl, fun p hp => ?_, fun p hp => ?_, ?_⟩
          · have := n4 p hp
            (repeat (first | assumption | refine' List.Mem.tail _ ?_))
          · have key : p ∈ news ∨ @LT.lt Nat _ L1 p.1 := by
              simp only [List.mem_cons] at hp
              rcases hp with rfl | rfl | rfl | rfl | rfl | rfl | rfl | rfl | rfl | rfl | rfl | rfl | rfl | rfl | rfl | rfl | rfl | hp
              all_goals first | exact nw4 p hp | exact .inr (by dsimp only; omega)
            rcases key with h | h
            · exact .inl h
            · exact .inr fun q hq => Nat.lt_trans (hnl q hq) h
          · exact ⟨_, _, _, _, _, _, _, _, _, _, .head _, by (repeat (first | exact List.Mem.head _ | refine' List.Mem.tail _ ?_)), by assumption, by (repeat (first | exact List.Mem.head _ | refine' List.Mem.tail _ ?_)), hd9, by (repeat (first | exact List.Mem.head _ | refine' List.Mem.tail _ ?_)), ir⟩
/-! S0 -/
/-- the order of lists of ints -/
def lexLt : List Int → List Int → Bool
  | [], [] => false
  | [], _ :: _ => true
  | _ :: _, [] => false
  | a :: as, b :: bs => if a = b then lexLt as bs else decide (a < b)
theorem lexLt_nil {ns ms : List Int} {i : Nat} (h : ns.length ≤ i ∨ ms.length ≤ i) (hi : i ≤ ns.length) (hj : i ≤ ms.length) : lexLt (ns.drop i) (ms.drop i) = decide (ns.length < ms.length) := by
  rcases Nat.lt_trichotomy ns.length i with h1 | h1 | h1
  · omega
  · have e : ns.drop i = [] := List.drop_eq_nil_of_le (by omega)
    rw [e]
    cases h2 : ms.drop i with
    | nil =>
      have := List.drop_eq_nil_iff.mp h2
      exact (decide_eq_false (by omega)).symm
    | cons b r =>
      have : i < ms.length := by
        rcases Nat.lt_or_ge i ms.length with h | h
        · exact h
        · rw [List.drop_eq_nil_of_le h] at h2; cases h2
      exact (decide_eq_true (by omega)).symm
  · have e : ms.drop i = [] := List.drop_eq_nil_of_le (by omega)
    rw [e, List.drop_eq_getElem_cons h1]
    exact (decide_eq_false (by omega)).symm
theorem lt_loop (l b : Addr) (vs ws : List Value) (ns ms : List Int) (n n2 : Nat) (hv : IntsAre vs ns) (hw : IntsAre ws ms) (k : Nat) :
    ∀ i : Nat, ns.length - i = k → i ≤ ns.length → i ≤ ms.length → Meets (Builtin.«list.__eq__.loop» ⟨[.ref l, .ref b, rawInt i, rawInt 0], []⟩)
      (fun _ R s => s.heap.get? l = some { cls := .type "list", dict := none, data := .seq vs.toArray n, slots := #[] } ∧ s.heap.get? b = some { cls := .type "list", dict := none, data := .seq ws.toArray n2, slots := #[] } ∧
        R (.ok (.ret (.bool (lexLt (ns.drop i) (ms.drop i))))) s) := by
  have e1 := hv.length
  have e2 := hw.length
  induction k with
  | zero =>
    intro i hk hi hj prog w A R s h
    obtain ⟨hp, g, d, tk, os⟩ := s; obtain ⟨hl, hb, h⟩ := h
    wp_walk using wpAny_loadPart' hl, wpAny_loadPart' hb
    have hi1 : vs.toArray[((i : Nat) : Int).toNat]? = none := by simp; omega
    rw [hi1]
    rw [lexLt_nil (.inl (by omega)) hi hj] at h
    wp_walk using wpAny_loadPart' hl, wpAny_loadPart' hb
    show R (.ok (.ret (.bool (decide (vs.toArray.size < ws.toArray.size))))) _
    simpa [e1, e2] using h
  | succ k ih =>
    intro i hk hi hj prog w A R s h
    obtain ⟨hp, g, d, tk, os⟩ := s; obtain ⟨hl, hb, h⟩ := h
    wp_walk using wpAny_loadPart' hl, wpAny_loadPart' hb
    have hlt : i < vs.length := by omega
    rcases Nat.lt_or_ge i ws.length with hlt2 | hge
    · obtain ⟨t, ht⟩ := IntsAre.int_at hv i _ (List.getElem?_eq_getElem hlt)
      obtain ⟨u, hu⟩ := IntsAre.int_at hw i _ (List.getElem?_eq_getElem hlt2)
      have hi1 : vs.toArray[((i : Nat) : Int).toNat]? = some (.int (ns.getD i 0) t) := by simp [hlt, ht]
      have hi2 : ws.toArray[((i : Nat) : Int).toNat]? = some (.int (ms.getD i 0) u) := by simp [hlt2, hu]
      have hc : ((i : Int) + 1) = ((i + 1 : Nat) : Int) := by push_cast; rfl
      have hd : lexLt (ns.drop i) (ms.drop i) = if ns.getD i 0 = ms.getD i 0 then lexLt (ns.drop (i + 1)) (ms.drop (i + 1)) else decide (ns.getD i 0 < ms.getD i 0) := by
        have h1 : i < ns.length := by omega
        have h2 : i < ms.length := by omega
        rw [List.drop_eq_getElem_cons h1, List.drop_eq_getElem_cons h2]
        simp [lexLt, h1, h2]
      rw [hd] at h
      rw [hi1, hi2]
      refine wpAny_bind (MeetsSeq.EqGives.int _ _ t u prog w _ _ _ _ ?_)
      by_cases hb' : ns.getD i 0 = ms.getD i 0
      · rw [if_pos hb'] at h
        rw [show (ns.getD i 0 == ms.getD i 0) = true from beq_iff_eq.mpr hb']
        wp_walk
        rw [hc]
        exact ⟨plainId_quiet MeetsSeq3.plain_eq_loop _, codeAny_builtin MeetsSeq3.entry_eq_loop (by
          rw [Around.under_plainId MeetsSeq3.plain_eq_loop _]
          exact ih (i + 1) (by omega) (by omega) (by omega) prog w A R _ ⟨hl, hb, h⟩)⟩
      · rw [if_neg hb'] at h
        rw [show (ns.getD i 0 == ms.getD i 0) = false from beq_eq_false_iff_ne.mpr hb']
        wp_walk using wpAny_loadPart' hl, wpAny_loadPart' hb
        rw [hi1, hi2]
        show wpAny _ _ (richCompare .Lt (.int (ns.getD i 0) t) (.int (ms.getD i 0) u) >>= fun r => ret r) _ _ _
        refine wpAny_bind (wpAny_richCompare_same (T := "int") rfl rfl PySem.F.slot_int_lt (call_int_lt ⟨Value.noConfusion, ?_⟩))
        exact wpAny_pure h
    · have hi2 : ws.toArray[((i : Nat) : Int).toNat]? = none := by simp; omega
      rw [lexLt_nil (.inr (by omega)) hi hj] at h
      have hi1 : vs.toArray[((i : Nat) : Int).toNat]? = some vs[i] := by simp [hlt]
      rw [hi1, hi2]
      wp_walk using wpAny_loadPart' hl, wpAny_loadPart' hb
      show R (.ok (.ret (.bool (decide (vs.toArray.size < ws.toArray.size))))) _
      simpa [e1, e2] using h
theorem list_lt (l b : Addr) (vs ws : List Value) (ns ms : List Int) (n n2 : Nat) (hv : IntsAre vs ns) (hw : IntsAre ws ms) :
    Meets (Builtin.«list.__lt__» ⟨[.ref l, .ref b], []⟩)
      (fun _ R s => s.heap.get? l = some { cls := .type "list", dict := none, data := .seq vs.toArray n, slots := #[] } ∧ s.heap.get? b = some { cls := .type "list", dict := none, data := .seq ws.toArray n2, slots := #[] } ∧
        R (.ok (.ret (.bool (lexLt ns ms)))) s) := by
  intro prog w A R s h
  obtain ⟨hp, g, d, tk, os⟩ := s; obtain ⟨hl, hb, h⟩ := h
  have f3 := AutoSeq1.sub_list_list
  wp_walk using wpAny_loadPart' hl, wpAny_loadPart' hb
  exact ⟨plainId_quiet MeetsSeq3.plain_eq_loop _, codeAny_builtin MeetsSeq3.entry_eq_loop (by
    rw [Around.under_plainId MeetsSeq3.plain_eq_loop _]
    exact lt_loop l b vs ws ns ms n n2 hv hw _ 0 rfl (Nat.zero_le _) (Nat.zero_le _) prog w A R _ ⟨hl, hb, by simpa using h⟩)⟩
section
variable {prog : Program} {w : World} {A : Around} {E : Value → Shared → Prop} {s : Shared}
/-- the sort's question of two lists of ints -/
theorem keyLt_lists {l b : Addr} {vs ws : List Value} {ns ms : List Int} {n n2 : Nat} {Q : Bool → Shared → Prop} (hu : A.units < cLine) (hl : s.heap.get? l = some (PySem.W.listOf vs.toArray n)) (hb : s.heap.get? b = some (PySem.W.listOf ws.toArray n2)) (hv : IntsAre vs ns) (hw : IntsAre ws ms) (h : Q (lexLt ns ms) s) :
    wpAny (model prog w) A (keyLt' oneType' (.ref l) (.ref b)) Q E s := by
  rw [keyLt'_oneType, oneLt'_eq]
  simp only [if_true]
  refine wpAny_bind (wpAny_cRoomFor hu ?_)
  have hT : s.TypeIs (.ref l) "list" := ⟨_, hl, rfl⟩
  refine wpAny_bind (wpAny_callSpecialIfBound?_slot hT PySem.F.slot_list_lt (call_meets PySem.F.slot_list_lt hT PySem.F.entry_list_lt (PySem.F.args_list_lt_2 _ _) (list_lt l b vs ws ns ms n n2 hv hw) ⟨hl, hb, ?_⟩))
  exact wpAny_truthy_bool h
end
/-! S1 -/
/-- the tree's end where the questions are answered by f and stay below n -/
def kasGood {α : Type} (n : Nat) (f : Nat → Nat → Bool) : KasT α → (α → Prop) → Prop
  | .ret a, Q => Q a
  | .ask i j k, Q => i < n ∧ j < n ∧ kasGood n f (k (f i j)) Q
theorem kasGood_wp {α : Type} {n : Nat} {f : Nat → Nat → Bool} {cmp : Nat → Nat → (Bool → Shared → Prop) → Shared → Prop} {Q : α → Shared → Prop} {G : α → Prop} {s : Shared} (hc : ∀ i j C, i < n → j < n → C (f i j) s → cmp i j C s) (hG : ∀ a, G a → Q a s) :
    ∀ t : KasT α, kasGood n f t G → t.kasWp cmp Q s
  | .ret _, h => hG _ h
  | .ask i j k, h => hc i j _ h.1 h.2.1 (kasGood_wp hc hG (k (f i j)) h.2.2)
theorem kasGood_mono {α : Type} {n : Nat} {f : Nat → Nat → Bool} {G G' : α → Prop} (hG : ∀ a, G a → G' a) : ∀ t : KasT α, kasGood n f t G → kasGood n f t G'
  | .ret _, h => hG _ h
  | .ask i j k, h => ⟨h.1, h.2.1, kasGood_mono hG (k (f i j)) h.2.2⟩
theorem kasGood_bind {α β : Type} {n : Nat} {f : Nat → Nat → Bool} {g : α → KasT β} {Q : β → Prop} : ∀ t : KasT α, kasGood n f t (fun a => kasGood n f (g a) Q) → kasGood n f (t.bind g) Q
  | .ret _, h => h
  | .ask i j k, h => ⟨h.1, h.2.1, kasGood_bind (k (f i j)) h.2.2⟩
section
variable {n : Nat} {r : Nat → Nat} {f : Nat → Nat → Bool}
/-- the places, in another order -/
structure IsOrd (n : Nat) (r : Nat → Nat) (p : Array Nat) : Prop where
  size : p.size = n
  lt : ∀ k, k < n → p.getD k 0 < n
  inj : ∀ a b, a < n → b < n → r (p.getD a 0) = r (p.getD b 0) → a = b
theorem getD_of {p : Array Nat} {k : Nat} : p.getD k 0 = (p[k]?).getD 0 := by simp [Array.getD_eq_getD_getElem?]
theorem ord_map {p q : Array Nat} (h : IsOrd n r p) (g : Nat → Nat) (hs : q.size = n) (hg : ∀ k, k < n → g k < n) (hi : ∀ a b, a < n → b < n → g a = g b → a = b) (hq : ∀ k, k < n → q.getD k 0 = p.getD (g k) 0) : IsOrd n r q :=
  ⟨hs, fun k hk => by rw [hq k hk]; exact h.lt _ (hg k hk), fun a b ha hb e => by rw [hq a ha, hq b hb] at e; exact hi a b ha hb (h.inj _ _ (hg a ha) (hg b hb) e)⟩
theorem rev_get {p : Array Nat} {m k : Nat} (hm : m ≤ p.size) : (kas_rev p 0 m).getD k 0 = if k < m then p.getD (m - 1 - k) 0 else p.getD k 0 := by
  unfold kas_rev
  rw [getD_of, getElem?_mirror_all hm]
  by_cases h : k < m
  · rw [if_pos ⟨Nat.zero_le _, h⟩, if_pos h, getD_of]; congr 3; omega
  · rw [if_neg (by omega), if_neg h, getD_of]
theorem rev_ord {p : Array Nat} {m : Nat} (h : IsOrd n r p) (hm : m ≤ n) : IsOrd n r (kas_rev p 0 m) :=
  ord_map h (fun k => if k < m then m - 1 - k else k) ((kas_rev_size _ _).trans h.size) (fun k hk => by split <;> omega) (fun a b ha hb e => by split at e <;> split at e <;> omega) fun k _ => by
    rw [rev_get (by rw [h.size]; exact hm)]; split <;> rfl
theorem bub_get {p : Array Nat} {k l j : Nat} (hk : k < p.size) (hl : l ≤ k) : (bubble p k (k - l)).getD j 0 = if j = l then p.getD k 0 else if l < j ∧ j ≤ k then p.getD (j - 1) 0 else p.getD j 0 := by
  rw [getD_of, getElem?_bubble hk _ (by omega), show k - (k - l) = l by omega, getD_of (k := k), getD_of (k := j - 1), getD_of (k := j)]
  split
  · rfl
  · split <;> rfl
def shI (k l j : Nat) : Nat := if j = l then k else if l < j ∧ j ≤ k then j - 1 else j
def shO (k l j : Nat) : Nat := if j = k then l else if l ≤ j ∧ j < k then j + 1 else j
theorem pr_lt {m n : Nat} (h : m < n) : m - 1 < n := Nat.lt_of_le_of_lt (Nat.sub_le _ _) h
theorem pr_lk {l a k : Nat} (h : l < a) (hk : a ≤ k) : a - 1 < k := Nat.lt_of_lt_of_le (Nat.sub_lt (Nat.lt_of_le_of_lt (Nat.zero_le _) h) Nat.one_pos) hk
theorem sh_inv {k l a : Nat} (hl : l ≤ k) : shO k l (shI k l a) = a := by
  unfold shI shO
  by_cases h1 : a = l
  · rw [if_pos h1, if_pos rfl, h1]
  · rw [if_neg h1]
    by_cases h2 : l < a ∧ a ≤ k
    · have hk := pr_lk h2.1 h2.2
      rw [if_pos h2, if_neg (Nat.ne_of_lt hk), if_pos ⟨Nat.le_sub_one_of_lt h2.1, hk⟩]
      exact Nat.sub_add_cancel (Nat.lt_of_le_of_lt (Nat.zero_le _) h2.1)
    · rw [if_neg h2, if_neg (fun e : a = k => h2 ⟨Nat.lt_of_le_of_ne (e ▸ hl) (Ne.symm h1), Nat.le_of_eq e⟩), if_neg (fun q : l ≤ a ∧ a < k => h2 ⟨Nat.lt_of_le_of_ne q.1 (Ne.symm h1), Nat.le_of_lt q.2⟩)]
theorem bub_ord {p : Array Nat} {k l : Nat} (h : IsOrd n r p) (hk : k < n) (hl : l ≤ k) : IsOrd n r (bubble p k (k - l)) :=
  ord_map h (shI k l) ((bubble_size _ _ _).trans h.size) (fun j hj => by
      unfold shI
      split
      · exact hk
      · split
        · exact pr_lt hj
        · exact hj)
    (fun a b ha hb e => by rw [← sh_inv (a := a) hl, e, sh_inv hl])
    fun j _ => by
      rw [bub_get (by rw [h.size]; exact hk) hl]
      unfold shI
      split
      · rfl
      · split <;> rfl
/-- the first m places lie in order -/
def Upto (r : Nat → Nat) (p : Array Nat) (m : Nat) : Prop := ∀ a b, a < b → b < m → r (p.getD a 0) < r (p.getD b 0)
theorem mo_lt {m f n : Nat} (h : m + (f + 1) ≤ n) : m < n := by omega
theorem mo_le {m f n : Nat} (h : m + (f + 1) ≤ n) : m + 1 + f ≤ n := by omega
theorem mo_up {m f k : Nat} (h : k ≤ m + 1 + f) : k ≤ m + (f + 1) := by omega
theorem mo_eq {m f k : Nat} (h : k = m + 1 + f) : k = m + (f + 1) := by omega
theorem hf_lt {l u k : Nat} (h : ¬ l ≥ u) (hu : u ≤ k) : (l + u) / 2 < k := by omega
theorem hf_le {l u : Nat} (h : ¬ l ≥ u) : l ≤ (l + u) / 2 := by omega
theorem hf_ri {l u : Nat} (h : ¬ l ≥ u) : (l + u) / 2 + 1 ≤ u := by omega
theorem hf_l {l u f : Nat} (h : ¬ l ≥ u) (hf : u ≤ l + (f + 1)) : (l + u) / 2 ≤ l + f := by omega
theorem hf_r {l u f : Nat} (h : ¬ l ≥ u) (hf : u ≤ l + (f + 1)) : u ≤ (l + u) / 2 + 1 + f := by omega
theorem Upto.snoc {p : Array Nat} {m : Nat} (h : Upto r p m) (h1 : 1 ≤ m) (hl : r (p.getD (m - 1) 0) < r (p.getD m 0)) : Upto r p (m + 1) := by
  intro a b hab hb
  rcases Nat.lt_or_ge b m with hb' | hb'
  · exact h a b hab hb'
  · obtain rfl : b = m := Nat.le_antisymm (Nat.le_of_lt_succ hb) hb'
    rcases Nat.lt_or_ge a (b - 1) with ha | ha
    · exact Nat.lt_trans (h a (b - 1) ha (Nat.sub_lt h1 Nat.one_pos)) hl
    · obtain rfl : a = b - 1 := Nat.le_antisymm (Nat.le_sub_one_of_lt hab) ha
      exact hl
def Down (r : Nat → Nat) (p : Array Nat) (m : Nat) : Prop := ∀ a b, a < b → b < m → r (p.getD b 0) < r (p.getD a 0)
theorem Down.snoc {p : Array Nat} {m : Nat} (h : Down r p m) (h1 : 1 ≤ m) (hl : r (p.getD m 0) < r (p.getD (m - 1) 0)) : Down r p (m + 1) := by
  intro a b hab hb
  rcases Nat.lt_or_ge b m with hb' | hb'
  · exact h a b hab hb'
  · obtain rfl : b = m := Nat.le_antisymm (Nat.le_of_lt_succ hb) hb'
    rcases Nat.lt_or_ge a (b - 1) with ha | ha
    · exact Nat.lt_trans hl (h a (b - 1) ha (Nat.sub_lt h1 Nat.one_pos))
    · obtain rfl : a = b - 1 := Nat.le_antisymm (Nat.le_sub_one_of_lt hab) ha
      exact hl
variable (hf : ∀ i j, i < n → j < n → f i j = decide (r i < r j))
include hf
theorem asc_good {p : Array Nat} (hp : IsOrd n r p) : ∀ (fuel m : Nat), 1 ≤ m → m + fuel ≤ n → Upto r p m → kasGood n f (kas_asc p fuel m) (fun m' => m ≤ m' ∧ m' ≤ m + fuel ∧ Upto r p m' ∧ (m' = m + fuel ∨ r (p.getD m' 0) < r (p.getD (m' - 1) 0)))
  | 0, m, _, _, h => ⟨Nat.le_refl _, Nat.le_refl _, h, .inl rfl⟩
  | fuel + 1, m, h1, hm, h => by
    have hmn := hp.lt _ (mo_lt hm)
    have hm1 := hp.lt _ (pr_lt (mo_lt hm))
    refine ⟨hmn, hm1, ?_⟩
    rw [hf _ _ hmn hm1]
    by_cases c : r (p.getD m 0) < r (p.getD (m - 1) 0)
    · rw [decide_eq_true c]; dsimp only; rw [if_pos rfl]
      exact ⟨Nat.le_refl _, Nat.le_add_right _ _, h, .inr c⟩
    · rw [decide_eq_false c]; dsimp only; rw [if_neg (by simp)]
      have ne : r (p.getD (m - 1) 0) ≠ r (p.getD m 0) := fun e => Nat.ne_of_lt (Nat.sub_lt h1 Nat.one_pos) (hp.inj _ _ (pr_lt (mo_lt hm)) (mo_lt hm) e)
      exact kasGood_mono (fun m' hm' => ⟨Nat.le_of_succ_le hm'.1, mo_up hm'.2.1, hm'.2.2.1, hm'.2.2.2.imp mo_eq id⟩) _ (asc_good hp fuel (m + 1) (Nat.le_add_left _ _) (mo_le hm) (h.snoc h1 (Nat.lt_of_le_of_ne (Nat.not_lt.mp c) ne)))
theorem desc_good {p : Array Nat} (hp : IsOrd n r p) : ∀ (fuel m : Nat), 1 ≤ m → m + fuel ≤ n → Down r p m → kasGood n f (kas_desc fuel p m 0) (fun x => x.1 = p ∧ x.2.2 = 0 ∧ m ≤ x.2.1 ∧ x.2.1 ≤ m + fuel ∧ Down r p x.2.1)
  | 0, m, _, _, h => ⟨rfl, rfl, Nat.le_refl _, Nat.le_refl _, h⟩
  | fuel + 1, m, h1, hm, h => by
    have hmn := hp.lt _ (mo_lt hm)
    have hm1 := hp.lt _ (pr_lt (mo_lt hm))
    refine ⟨hmn, hm1, ?_⟩
    rw [hf _ _ hmn hm1]
    by_cases c : r (p.getD m 0) < r (p.getD (m - 1) 0)
    · rw [decide_eq_true c]; dsimp only; rw [if_pos rfl, if_neg (Nat.lt_irrefl _)]
      exact kasGood_mono (fun x hx => ⟨hx.1, hx.2.1, Nat.le_of_succ_le hx.2.2.1, mo_up hx.2.2.2.1, hx.2.2.2.2⟩) _ (desc_good hp fuel (m + 1) (Nat.le_add_left _ _) (mo_le hm) (h.snoc h1 c))
    · rw [decide_eq_false c]; dsimp only; rw [if_neg (by simp)]
      have ne : r (p.getD (m - 1) 0) ≠ r (p.getD m 0) := fun e => Nat.ne_of_lt (Nat.sub_lt h1 Nat.one_pos) (hp.inj _ _ (pr_lt (mo_lt hm)) (mo_lt hm) e)
      refine ⟨hm1, hmn, ?_⟩
      rw [hf _ _ hm1 hmn, decide_eq_true (Nat.lt_of_le_of_ne (Nat.not_lt.mp c) ne)]; dsimp only; rw [if_pos rfl]
      exact ⟨rfl, rfl, Nat.le_refl _, Nat.le_add_right _ _, h⟩
theorem tail_good {p : Array Nat} {m : Nat} (hp : IsOrd n r p) (h1 : 1 ≤ m) (hm : m ≤ n) (h : Down r p m) : kasGood n f (kas_tail3 m n p) (fun x => 1 ≤ x.1 ∧ x.1 ≤ n ∧ IsOrd n r x.2 ∧ Upto r x.2 x.1) := by
  have hq := rev_ord hp hm
  refine kasGood_bind _ (kasGood_mono (fun m' hm' => ⟨by omega, by omega, hq, hm'.2.2.1⟩) _ (asc_good hf hq (n - m) m h1 (by omega) fun a b hab hb => ?_))
  rw [rev_get (by rw [hp.size]; exact hm), rev_get (by rw [hp.size]; exact hm), if_pos (by omega), if_pos hb]
  exact h _ _ (by omega) (by omega)
theorem dpart_good {p : Array Nat} {m : Nat} (hp : IsOrd n r p) (h1 : 1 ≤ m) (hm : m + 1 ≤ n) (h : Down r p (m + 1)) : kasGood n f (kas_descPart m n p) (fun x => 1 ≤ x.1 ∧ x.1 ≤ n ∧ IsOrd n r x.2 ∧ Upto r x.2 x.1) := by
  refine kasGood_bind _ (kasGood_mono (fun x hx => ?_) _ (desc_good hf hp (n - (m + 1)) (m + 1) (by omega) (by omega) h))
  obtain ⟨e1, e2, e3, e4, e5⟩ := hx
  rw [e2, if_neg (by omega), e1]
  exact tail_good hf hp (by omega) (by omega) e5
theorem count_good {p : Array Nat} (hp : IsOrd n r p) (h1 : 1 ≤ n) : kasGood n f (kas_count n p) (fun x => 1 ≤ x.1 ∧ x.1 ≤ n ∧ IsOrd n r x.2 ∧ Upto r x.2 x.1) := by
  refine kasGood_bind _ (kasGood_mono (fun m hm => ?_) _ (asc_good hf hp (n - 1) 1 (Nat.le_refl _) (by omega) fun a b hab hb => by omega))
  obtain ⟨m1, m2, m3, m4⟩ := hm
  by_cases c : (m == n) = true
  · rw [if_pos c]
    exact ⟨m1, by omega, hp, m3⟩
  · rw [if_neg c]
    have c' : m ≠ n := fun e => c (by rw [e]; exact beq_self_eq_true _)
    have hl : r (p.getD m 0) < r (p.getD (m - 1) 0) := m4.resolve_left (by omega)
    by_cases d : m > 1
    · rw [if_pos d]
      refine ⟨hp.lt _ (by omega), hp.lt _ (by omega), ?_⟩
      rw [hf _ _ (hp.lt _ (by omega)) (hp.lt _ (by omega)), decide_eq_true (m3 _ _ (by omega) (by omega))]
      dsimp only
      rw [if_pos rfl]
      exact ⟨m1, by omega, hp, m3⟩
    · rw [if_neg d]
      obtain rfl : m = 1 := by omega
      refine dpart_good hf hp (Nat.le_refl _) (by omega) fun a b hab hb => ?_
      obtain rfl : a = 0 := by omega
      obtain rfl : b = 1 := by omega
      exact hl
theorem place_good {p : Array Nat} (hp : IsOrd n r p) {k : Nat} (hk : k < n) (hs : Upto r p k) : ∀ (fuel l u : Nat), l ≤ u → u ≤ k → u ≤ l + fuel → (∀ a, a < l → r (p.getD a 0) < r (p.getD k 0)) → (∀ b, u ≤ b → b < k → r (p.getD k 0) < r (p.getD b 0)) →
    kasGood n f (kas_place p k fuel l u) (fun l' => l' ≤ k ∧ (∀ a, a < l' → r (p.getD a 0) < r (p.getD k 0)) ∧ ∀ b, l' ≤ b → b < k → r (p.getD k 0) < r (p.getD b 0))
  | 0, l, u, h1, h2, h3, ha, hb => by
    obtain rfl : l = u := Nat.le_antisymm h1 h3
    exact ⟨h2, ha, hb⟩
  | fuel + 1, l, u, h1, h2, h3, ha, hb => by
    unfold kas_place
    by_cases c : l ≥ u
    · rw [if_pos c]
      obtain rfl : l = u := Nat.le_antisymm h1 c
      exact ⟨h2, ha, hb⟩
    · rw [if_neg c]
      have hkn := hp.lt _ hk
      have hmk := hf_lt c h2
      have hmn := hp.lt _ (Nat.lt_trans hmk hk)
      refine ⟨hkn, hmn, ?_⟩
      rw [hf _ _ hkn hmn]
      by_cases d : r (p.getD k 0) < r (p.getD ((l + u) / 2) 0)
      · rw [decide_eq_true d]; dsimp only; rw [if_pos rfl]
        refine place_good hp hk hs fuel l ((l + u) / 2) (hf_le c) (Nat.le_of_lt hmk) (hf_l c h3) ha fun b hb1 hb2 => ?_
        rcases Nat.lt_or_ge ((l + u) / 2) b with e | e
        · exact Nat.lt_trans d (hs _ _ e hb2)
        · obtain rfl : b = (l + u) / 2 := Nat.le_antisymm e hb1
          exact d
      · rw [decide_eq_false d]; dsimp only; rw [if_neg (by simp)]
        have ne : r (p.getD ((l + u) / 2) 0) ≠ r (p.getD k 0) := fun e => Nat.ne_of_lt hmk (hp.inj _ _ (Nat.lt_trans hmk hk) hk e)
        have lt := Nat.lt_of_le_of_ne (Nat.not_lt.mp d) ne
        refine place_good hp hk hs fuel ((l + u) / 2 + 1) u (hf_ri c) h2 (hf_r c h3) (fun a h => ?_) hb
        rcases Nat.lt_or_ge a ((l + u) / 2) with e | e
        · exact Nat.lt_trans (hs _ _ e hmk) lt
        · obtain rfl : a = (l + u) / 2 := Nat.le_antisymm (Nat.le_of_lt_succ h) e
          exact lt
theorem bin_good : ∀ (fuel : Nat) (p : Array Nat) (k : Nat), IsOrd n r p → 1 ≤ k → k + fuel = n → Upto r p k → kasGood n f (kas_bin fuel p k) (fun q => IsOrd n r q ∧ Upto r q n)
  | 0, p, k, hp, _, hk, h => by
    obtain rfl : k = n := hk
    exact ⟨hp, h⟩
  | fuel + 1, p, k, hp, h1, hk, h => by
    have kn : k < n := mo_lt (Nat.le_of_eq hk)
    refine kasGood_bind _ (kasGood_mono (fun l hl => ?_) _ (place_good hf hp (k := k) kn h k 0 k (Nat.zero_le _) (Nat.le_refl _) (Nat.le_of_eq (Nat.zero_add k).symm) (fun a ha => absurd ha (Nat.not_lt_zero a)) fun b h1 h2 => absurd h2 (Nat.not_lt.mpr h1)))
    obtain ⟨hl, ha, hb⟩ := hl
    have hz : k < p.size := by rw [hp.size]; exact kn
    refine bin_good fuel _ (k + 1) (bub_ord hp kn hl) (Nat.le_add_left _ _) ((Nat.add_right_comm k 1 fuel).trans hk) fun a b hab hbk => ?_
    have hbk := Nat.le_of_lt_succ hbk
    rw [bub_get hz hl, bub_get hz hl]
    by_cases a1 : a = l
    · subst a1
      rw [if_pos rfl, if_neg (Nat.ne_of_gt hab), if_pos ⟨hab, hbk⟩]
      exact hb _ (Nat.le_sub_one_of_lt hab) (pr_lk hab hbk)
    · rw [if_neg a1]
      by_cases b1 : b = l
      · rw [if_pos b1, if_neg (fun q => absurd q.1 (Nat.not_lt.mpr (Nat.le_of_lt (b1 ▸ hab))))]
        exact ha _ (b1 ▸ hab)
      · rw [if_neg b1]
        by_cases a2 : l < a ∧ a ≤ k <;> by_cases b2 : l < b ∧ b ≤ k
        · rw [if_pos a2, if_pos b2]; exact h _ _ (Nat.sub_lt_sub_right (Nat.lt_of_le_of_lt (Nat.zero_le _) a2.1) hab) (pr_lk b2.1 b2.2)
        · exact absurd ⟨Nat.lt_trans a2.1 hab, hbk⟩ b2
        · rw [if_neg a2, if_pos b2]
          exact h _ _ (Nat.lt_of_lt_of_le (Nat.lt_of_le_of_ne (Nat.not_lt.mp fun q => a2 ⟨q, Nat.le_trans (Nat.le_of_lt hab) hbk⟩) a1) (Nat.le_sub_one_of_lt b2.1)) (pr_lk b2.1 b2.2)
        · rw [if_neg a2, if_neg b2]
          exact h _ _ hab (Nat.lt_of_lt_of_le (Nat.lt_of_le_of_ne (Nat.not_lt.mp fun q => b2 ⟨q, hbk⟩) b1) hl)
theorem sort_good (h1 : 1 ≤ n) (hr : ∀ i j, i < n → j < n → r i = r j → i = j) : kasGood n f (kas_sort n) (fun q => IsOrd n r q ∧ Upto r q n) := by
  have e : ∀ k, k < n → (List.toArray (List.range n)).getD k 0 = k := fun k hk => by simp [hk]
  have hp : IsOrd n r (List.toArray (List.range n)) := ⟨by simp, fun k hk => by rw [e k hk]; exact hk, fun a b ha hb h => by rw [e a ha, e b hb] at h; exact hr a b ha hb h⟩
  refine kasGood_bind _ (kasGood_mono (fun x hx => ?_) _ (count_good hf hp h1))
  obtain ⟨x1, x2, x3, x4⟩ := hx
  by_cases c : x.1 < n
  · rw [if_pos c, show max x.1 1 = x.1 by omega]
    exact bin_good hf _ _ _ x3 x1 (by omega) x4
  · rw [if_neg c]
    obtain rfl : x.1 = n := by omega
    exact ⟨x3, x4⟩
end
/-- an order whose ranks lie below n: at rank i lies i -/
theorem ord_rank {n : Nat} {r : Nat → Nat} {p : Array Nat} (hp : IsOrd n r p) (hs : Upto r p n) (hr : ∀ i j, i < n → j < n → r i = r j → i = j) (hl : ∀ i, i < n → r i < n) {i : Nat} (hi : i < n) : p.getD (r i) 0 = i := by
  have lo : ∀ k, k < n → k ≤ r (p.getD k 0) := by
    intro k
    induction k with
    | zero => intro _; exact Nat.zero_le _
    | succ k ih => intro hk; have := ih (by omega); have := hs k (k + 1) (by omega) hk; omega
  have hi2 : ∀ d k, d + k + 1 = n → r (p.getD k 0) ≤ k := by
    intro d
    induction d with
    | zero => intro k hk; have := hl _ (hp.lt k (by omega)); omega
    | succ d ih => intro k hk; have := ih (k + 1) (by omega); have := hs k (k + 1) (by omega) (by omega); omega
  have h := hl i hi
  have a := lo _ h
  have b := hi2 (n - 1 - r i) (r i) (by omega)
  exact hr _ _ (hp.lt _ h) hi (by omega)
/-! R1 -/
theorem perm2 {I C D k1 k2 : Addr × Obj} {c B : Led} : ∀ p ∈ I :: C :: D :: (c ++ (k2 :: k1 :: B)), p ∈ I :: C :: D :: k1 :: k2 :: (c ++ B) := sub_cons (sub_cons (sub_cons (rev_app [k1, k2])))
theorem perm2r {I C D k1 k2 : Addr × Obj} {c B : Led} : ∀ p ∈ I :: C :: D :: k1 :: k2 :: (c ++ B), p ∈ I :: C :: D :: (c ++ (k2 :: k1 :: B)) := sub_cons (sub_cons (sub_cons (app_rev [k1, k2])))
/-- the suffixes as lists -/
def EndsIn (B : Led) (tx : List Int) (ps : List Addr) : Prop := ps.length = 7 ∧ ∀ (k : Nat) (p : Addr), ps[k]? = some p → ∃ vs n, (p, PySem.W.listOf (List.toArray vs) n) ∈ B ∧ IntsAre vs (tx.drop k)
theorem EndsIn.sub {B B' : Led} {tx : List Int} {ps : List Addr} (h : EndsIn B tx ps) (hs : ∀ p ∈ B, p ∈ B') : EndsIn B' tx ps :=
  ⟨h.1, fun k p hp => by obtain ⟨vs, n, h1, h2⟩ := h.2 k p hp; exact ⟨vs, n, hs _ h1, h2⟩⟩
theorem ends_s {g h : Heap} {L : Nat} {D : Addr} {tx : List Int} {ys : List Value} {o1 o2 : Obj} {base c news : Led}
    (N : News g L h ((D, lst ys) :: (c ++ base))) (hbase : base = (L + 1 + 1, o1) :: (L + 1, o2) :: news) (hd : MadeD (fun k o => ∃ vs n, o = PySem.W.listOf (List.toArray vs) n ∧ IntsAre vs (tx.drop k)) base 7 c ys)
    (l2 : ∀ p ∈ base, p.1 < D) (hnl : ∀ p ∈ news, @LT.lt Nat _ p.1 L) :
    ∃ B4 ps, News g L h ((L + 1 + 1, o1) :: (L + 1, o2) :: B4) ∧ (D, lst (ps.map Value.ref)) ∈ B4 ∧ ys = ps.map Value.ref ∧ Off B4 L (L + 1 + 1) ∧ (∀ p ∈ news, p ∈ B4) ∧ EndsIn B4 tx ps := by
  subst hbase
  obtain ⟨⟨ps, hl, rfl, hps⟩, hf⟩ := hd
  refine ⟨(D, lst (ps.map Value.ref)) :: (c ++ news), ps, News.sub N (fun p hp => ?_), .head _, rfl, fun p hp => ?_, fun p hp => .tail _ (List.mem_append_right _ hp), hl, fun k p hp => ?_⟩
  · simp only [List.mem_append, List.mem_cons] at hp ⊢
    rcases hp with h | h | h | h | h <;> simp [h]
  · rcases List.mem_cons.mp hp with rfl | hp
    · exact .inr (l2 _ (.head _))
    · rcases List.mem_append.mp hp with hp | hp
      · exact .inr (hf p hp _ (.head _))
      · exact .inl (hnl p hp)
  · obtain ⟨o, h1, vs, n, rfl, h2⟩ := hps k p hp
    exact ⟨vs, n, .tail _ (List.mem_append_left _ h1), h2⟩
/-- a suffix's rank -/
def rL (tx : List Int) (i : Nat) : Nat := (List.range 7).countP fun j => lexLt (tx.drop j) (tx.drop i)
structure RankOk (tx : List Int) : Prop where
  hf : ∀ i j, i < 7 → j < 7 → lexLt (tx.drop i) (tx.drop j) = decide (rL tx i < rL tx j)
  inj : ∀ i j, i < 7 → j < 7 → rL tx i = rL tx j → i = j
  lt : ∀ i, i < 7 → rL tx i < 7
theorem looks_list {M : Model} {h : Heap} {a : Addr} {o : Obj} (ho : h.get? a = some o) : Looks M h (typeOf (.ref a)) o.cls := (Looks.ld ho).andThen .now
section
variable {prog : Program} {w : World} {A : Around} {E : Value → Shared → Prop} {s : Shared} {h₀ : Heap} {L : Addr} {m : Str → Option Value} {news : Led}
/-- the suffixes sorted: at each one's rank lies it -/
theorem sorted_ends {D : Addr} {ps : List Addr} {tx : List Int} {n : Nat} {Q : Value → Shared → Prop} (hu : A.in1.in1.units < cLine) (F : Fr h₀ L s.heap m) (N : News h₀ L s.heap news) (hD : (D, PySem.W.listOf (List.toArray (ps.map Value.ref)) n) ∈ news) (hE : EndsIn news tx ps) (ho : RankOk tx)
    (h : ∀ D2 out c h', Fr h₀ L h' m → News h₀ L h' ((D2, PySem.W.listOf (List.toArray out) c) :: news) → (∀ q ∈ news, q.1 < D2) → (∀ i, i < 7 → out[rL tx i]? = (ps.map Value.ref)[i]?) → Q (.ref D2) { s with heap := h' }) :
    wpAny (model prog w) A (call (.builtin "sorted") [.ref D]) Q E s := by
  have hl : (ps.map Value.ref).length = 7 := by simp [hE.1]
  have at_ : ∀ i, i < 7 → ∃ p, ps[i]? = some p ∧ (ps.map Value.ref).getD i Value.none = .ref p := fun i hi => by
    have : i < ps.length := by rw [hE.1]; exact hi
    exact ⟨ps[i], List.getElem?_eq_getElem _, by simp [this]⟩
  refine kas_sorted (T := .type "list") F N (N.isList hD) (by omega) (by omega) (fun h' F' N' v hv => ?_) rfl fun D2 e1 h' F' N' l1 => ?_
  · obtain ⟨p, hp, rfl⟩ := List.mem_map.mp hv
    obtain ⟨i, hi⟩ := List.getElem?_of_mem hp
    obtain ⟨vs, n, h1, _⟩ := hE.2 i p hi
    exact looks_list (N' _ h1).1
  · rw [hl]
    refine kasGood_wp (n := 7) (f := fun i j => lexLt (tx.drop i) (tx.drop j)) (G := fun q => IsOrd 7 (rL tx) q ∧ Upto (rL tx) q 7) (fun i j C hi hj hC => ?_) (fun q hq => ?_) _ (sort_good ho.hf (by decide) ho.inj)
    · obtain ⟨p, hp, ep⟩ := at_ i hi
      obtain ⟨p', hp', ep'⟩ := at_ j hj
      obtain ⟨v1, n1, m1, i1⟩ := hE.2 i p hp
      obtain ⟨v2, n2, m2, i2⟩ := hE.2 j p' hp'
      unfold kas_ask
      rw [ep, ep']
      exact keyLt_lists hu (N' _ (.tail _ m1)).1 (N' _ (.tail _ m2)).1 i1 i2 hC
    · refine KasFin.intro F' N' (.head (allNe_of l1)) fun h'' c F'' N'' => ?_
      refine h _ _ c h'' F'' N'' l1 fun i hi => ?_
      have e := ord_rank hq.1 hq.2 ho.inj ho.lt hi
      have hz : rL tx i < q.size := by rw [hq.1.size]; exact ho.lt i hi
      have e3 : q.getD (rL tx i) 0 = q[rL tx i] := by simp [Array.getD, hz]
      have e2 : q[rL tx i] = i := e3.symm.trans e
      rw [List.getElem?_map, Array.getElem?_toList, Array.getElem?_eq_getElem hz, e2]
      obtain ⟨p, hp, ep⟩ := at_ i hi
      rw [List.getElem?_map, hp]
      simp [hp]
/-- two lists of the same items -/
theorem eq_same {l b : Addr} {vs : List Value} {n n2 : Nat} {Q : Value → Shared → Prop} (N : News h₀ L s.heap news) (hl : (l, PySem.W.listOf vs.toArray n) ∈ news) (hb : (b, PySem.W.listOf vs.toArray n2) ∈ news) (hu : A.units < cLine) (h : Q (.bool true) s) :
    wpAny (model prog w) A (compareOp .Eq (.ref l) (.ref b)) Q E s := by
  refine PySem.P.eq_list (e := fun _ => true) (N _ hl).1 (N _ hb).1 rfl (fun j h1 h2 => fun prog w A E s Q h => SeqAt.EqAt.same _ prog w E Q h) hu ?_
  rw [show (List.range vs.toArray.size).all (fun _ => true) = true by simp]
  exact h
end
set_option maxHeartbeats 8000000 in
theorem ranked_tel (w : World) (mean : ExcName → Option Value) (mg mb : Str → Option Value) (news : Led) (b : Array UInt8) (tx : List Int) (t1 : Tok) (rk : Addr) (v3 : List Value) (n4 : Nat) (hb : KBw.bInts b = tx) (ht : tx.length = 6)
    (hrk : (rk, PySem.W.listOf v3.toArray n4) ∈ news) (hI : IntsAre v3 ((List.range 7).map fun i => ((rL tx i : Nat) : Int))) (ho : RankOk tx) :
    Tel w mean mg mb 3 100 100 [.bytes b t1, .ref rk] [] news (fun r news' => news' = news ∧ r = .bool true) := by
  w_top off
  unfold Tel
  k_fill
  intro dp un gd cn cs a ccd cl outer A₀ base h₀ L m s Q E B F X N T hk hdd hu hret
  refine wpAny_call ?_
  k_dflt cell_enter
  refine wpAny_noRaise ?_
  rename_i o1 o2 d1 d2
  refine wp_abs fun Q0 hQ0 => ?_
  have hnl : ∀ p ∈ news, @LT.lt Nat _ p.1 L1 := l1
  k_steps
  rename Fr _ _ _ _ => F1
  rename News _ _ _ _ => N1
  rename IsRange _ _ _ _ _ _ _ _ => R1
  obtain ⟨base, hbase⟩ : ∃ base : Led, base = (L1 + 1 + 1, o1) :: (L1 + 1, o2) :: news := ⟨_, rfl⟩
  refine comp_range2 (n := 7) _ (σ := Led) (fun c => c ++ base) [] (MadeD (fun k o => ∃ vs n, o = PySem.W.listOf (List.toArray vs) n ∧ IntsAre vs (tx.drop k)) base) (by rfl) F1 N1 R1 (by rfl) (by decide) (by rw [hbase]; rfl) (fun _ _ => rfl) (asg_plain (V := fun i v => ∃ t, v = .int (i : Nat) t) (by rfl) (by rfl) fun i v h _ hP => hP.2) made_nil ?_ ?_
  · rintro s₂ I lI ⟨h2, tk2, rfl⟩
    refine turn_plain (by decide) ?_
    rintro i c ys C D oC m₂ v h tk E' hi hd9 hx913 hb9 hoC F2 ap hws hDC
    refine allObj1 fun o1 c1 N2 => ?_
    refine tst_abs fun P9 P8 hP9 hP8 => ?_
    refine goal_abs fun hG9 => ?_
    obtain ⟨t, rfl⟩ := hx913
    subst hbase
    simp only [List.cons_append, List.nil_append] at N2
    have N3 := News.sub N2 (l' := (I, o1) :: (C, oC) :: (D, lst ys) :: (L1 + 1, o2) :: (L1 + 1 + 1, _) :: (c ++ news)) perm2r
    clear N2
    refine hG9 ?_
    clear hG9
    show wpAny _ _ _ _ _ _
    k_steps
    rename _ ∧ _ ∧ _ ∧ _ ∧ _ ∧ AllLt _ _ => l0
    rename IntsAre _ (List.take _ _) => hI9
    rename News _ _ _ ((_, PySem.W.listOf _ _) :: _) => N9
    rename Fr g1 L1 _ _ => F9
    have e1 : min i tx.length = i := by omega
    rw [e1, List.take_of_length_le (by simp)] at hI9
    subst hP9
    exact made_end hd9 F9 N9 (fun p hp => .tail _ (perm2 p hp)) (.head _) ⟨_, _, rfl, hI9⟩ (fun p hp => kst_ltOf (show AllLt _ ((I, o1) :: (C, oC) :: (D, lst ys) :: (L1 + 1, o2) :: (L1 + 1 + 1, _) :: (c ++ news)) from l0) p (perm2 p hp)) ap
  · rintro c ys h tk hd9
    intro D h' tk' F2 N2 l2 l3
    refine goal_abs fun hG9 => ?_
    subst hbase
    obtain ⟨B4, ps, N6, hD, rfl, e4, nB, hE⟩ := ends_s N2 rfl hd9 l2 hnl
    clear hd9 N2 l2 l3 R1 F1 N1
    refine hG9 ?_
    clear hG9
    k_steps
    refine sorted_ends (by ktr_units) (by k_asm) N6 (.tail _ (.tail _ hD)) (hE.sub fun p hp => .tail _ (.tail _ hp)) ho fun D2 out c9 h9 F9 N9 l9 hout => ?_
    k_lt l9
    k_steps
    have hrk4 := nB _ hrk
    rename Fr g1 L1 _ _ => F5
    rename News g1 L1 _ _ => N5
    have h37 : v3.length = 7 := by rw [IntsAre.length hI]; simp
    refine comp_list2 _ (σ := Unit) (fun _ => _) () (fun j _ ys => ys = (ps.map Value.ref).take j) (by rfl) F5 N5 (vs := v3) (ol := PySem.W.listOf v3.toArray n4) (N5.isList (by (repeat (first | assumption | refine' List.Mem.tail _ ?_)))) (.inl (by (repeat (first | assumption | refine' List.Mem.tail _ ?_)))) (fun _ _ _ _ h => h) (by rw [h37, sizeLine_eq]; omega) rfl
      (fun _ _ => rfl) (asg_plain (V := fun i v => v3[i]? = some v) (by rfl) (by rfl) fun i v h _ hP => hP) rfl ?_ ?_
    · rintro s₂ I2 lI2 ⟨h2, tk2, rfl⟩
      refine turn_plain (by decide) ?_
      rintro j c ys C Dl oC m₂ v h tk E' hj hd9 hv hb9 hoC F2 ap hws hDC
      refine allObj1 fun o1 c1 N3 => ?_
      refine tst_abs fun P9 P8 hP9 hP8 => ?_
      refine goal_abs fun hG9 => ?_
      simp only [List.cons_append, List.nil_append] at N3
      have hj7 : j < 7 := by omega
      obtain ⟨t, rfl⟩ := IntsAre.int_at hI _ _ hv
      rw [show ((List.range 7).map fun i => ((rL tx i : Nat) : Int)).getD j 0 = ((rL tx j : Nat) : Int) by simp [hj7]] at hb9
      have hr7 := ho.lt j hj7
      have hoj := hout j hj7
      obtain ⟨p, hp⟩ : ∃ p, ps[j]? = some p := ⟨ps[j]'(by rw [hE.1]; exact hj7), List.getElem?_eq_getElem _⟩
      rw [List.getElem?_map, hp] at hoj
      obtain ⟨NL, hNL, N4⟩ := News.abs N3
      clear N3
      obtain ⟨oR, mR, eR⟩ : ∃ o, (L1 + 1 + 1, o) ∈ NL ∧ o.data = Data.cell (some (.ref D2)) := ⟨_, by rw [hNL]; (repeat (first | exact List.Mem.head _ | refine' List.Mem.tail _ ?_)), by assumption⟩
      have mD : (D2, PySem.W.listOf (List.toArray out) c9) ∈ NL := by rw [hNL]; (repeat (first | exact List.Mem.head _ | refine' List.Mem.tail _ ?_))
      have hCm : (C, oC) ∈ NL := by rw [hNL]; (repeat (first | exact List.Mem.head _ | refine' List.Mem.tail _ ?_))
      refine hG9 ?_
      clear hG9
      show wpAny _ _ _ _ _ _
      k_steps
      refine item_lit N4 mD (show out[rL tx j]? = some (.ref p) from hoj) rfl (by omega) ?_
      rename Fr g1 L1 _ _ => F7
      subst hP9
      exact cend_same () F7 N4 (fun p hp => by rw [hNL]; exact hp) ap (by
        show ys ++ [_] = _
        rw [hd9, List.take_add_one, List.getElem?_map, hp]; rfl)
    · rintro c ys h tk hd9
      intro Dr h' tk' F3 N3 lr1 lr2
      rw [h37, List.take_of_length_le (by simp [hE.1])] at hd9
      subst hd9
      clear hout F5 N5
      walk1
      refine eq_same N3 (.head _) (.tail _ (.tail _ (.tail _ (.tail _ hD)))) (by ktr_units) ?_
      subst hQ0
      k_steps
      rename News h₀ L _ _ => kN9
      exact hret _ news _ _ (by assumption) (fun p hp => kN9 p (.tail _ (.tail _ (.tail _ (.tail _ (nB p hp)))))) ⟨rfl, rfl⟩
/-! P0 -/
/-- a text of six letters -/
structure Txt (tx : List Int) : Prop where
  len : tx.length = 6
  rng : ∀ x ∈ tx, 1 ≤ x ∧ x ≤ 3
def laidL (tx : List Int) : List Int := bkt tx 0 7 ++ bkt tx 1 7 ++ bkt tx 2 7 ++ bkt tx 3 7
def begL (tx : List Int) : List Int := (List.range 5).map (begI tx)
/-- where the suffixes begin that begin with a word -/
def loN (tx W : List Int) : Nat := (List.range 7).countP fun k => lexLt (tx.drop k) W
/-- and how many they are -/
def wiN (tx W : List Int) : Nat := (List.range 7).countP fun k => W.isPrefixOf (tx.drop k)
/-- the three numbers of a word -/
structure Nums (tx W : List Int) (low other width : Int) : Prop where
  low : low = loN tx W
  other : other = loN tx.reverse W.reverse
  width : width = wiN tx W
/-! PM1 -/
theorem blF_spec (ns : List Int) (x : Int) : ∀ (k : Nat) (lo hi : Int), 0 ≤ lo → lo ≤ hi → (hi - lo).toNat ≤ k → (∀ i j : Nat, lo ≤ i → i ≤ j → (j : Int) < hi → ns.getD i 0 ≤ ns.getD j 0) →
    lo ≤ blF ns x k lo hi ∧ blF ns x k lo hi ≤ hi ∧ (∀ j : Nat, lo ≤ j → (j : Int) < blF ns x k lo hi → ns.getD j 0 < x) ∧ (∀ j : Nat, blF ns x k lo hi ≤ j → (j : Int) < hi → x ≤ ns.getD j 0) := by
  intro k
  induction k with
  | zero =>
    intro lo hi h0 h1 h2 hs
    simp only [blF]
    exact ⟨Int.le_refl _, h1, fun j a b => absurd b (Int.not_lt.mpr a), fun j a b => absurd (Int.lt_of_le_of_lt a b) (nt0 h2)⟩
  | succ k ih =>
    intro lo hi h0 h1 h2 hs
    simp only [blF]
    by_cases h : lo < hi
    · rw [if_pos h]
      have m1 := md_lo h
      have m2 := md_hi h
      have mr := Nat.le_of_lt_succ (Nat.lt_of_lt_of_le (md_r h) h2)
      have ml := Nat.le_of_lt_succ (Nat.lt_of_lt_of_le (md_l h) h2)
      generalize (lo + hi).fdiv 2 = mid at *
      obtain ⟨md, rfl⟩ := Int.eq_ofNat_of_zero_le (Int.le_trans h0 m1)
      rw [Int.toNat_natCast]
      have m3 : lo ≤ (md : Int) + 1 := Int.le_trans m1 (Int.le_add_of_nonneg_right (by decide))
      by_cases hx : ns.getD md 0 < x
      · rw [if_pos hx]
        obtain ⟨a, b, c, d⟩ := ih (md + 1) hi (Int.le_trans h0 m3) (Int.add_one_le_of_lt m2) mr (fun i j h3 h4 h5 => hs i j (Int.le_trans m3 h3) h4 h5)
        refine ⟨Int.le_trans m3 a, b, fun j h3 h4 => ?_, d⟩
        by_cases h5 : (md : Int) + 1 ≤ j
        · exact c j h5 h4
        · exact Int.lt_of_le_of_lt (hs j md h3 (Int.ofNat_le.mp (Int.le_of_lt_add_one (Int.not_le.mp h5))) m2) hx
      · rw [if_neg hx]
        obtain ⟨a, b, c, d⟩ := ih lo md h0 m1 ml (fun i j h3 h4 h5 => hs i j h3 h4 (Int.lt_trans h5 m2))
        refine ⟨a, Int.le_trans b (Int.le_of_lt m2), c, fun j h3 h4 => ?_⟩
        by_cases h5 : (j : Int) < md
        · exact d j h3 h5
        · exact Int.le_trans (Int.not_lt.mp hx) (hs md j m1 (Int.ofNat_le.mp (Int.not_lt.mp h5)) h4)
    · rw [if_neg h]
      exact ⟨Int.le_refl _, h1, fun j a b => absurd b (Int.not_lt.mpr a), fun j a b => absurd (Int.lt_of_le_of_lt a b) h⟩
theorem brF_spec (ns : List Int) (x : Int) : ∀ (k : Nat) (lo hi : Int), 0 ≤ lo → lo ≤ hi → (hi - lo).toNat ≤ k → (∀ i j : Nat, lo ≤ i → i ≤ j → (j : Int) < hi → ns.getD i 0 ≤ ns.getD j 0) →
    lo ≤ brF ns x k lo hi ∧ brF ns x k lo hi ≤ hi ∧ (∀ j : Nat, lo ≤ j → (j : Int) < brF ns x k lo hi → ns.getD j 0 ≤ x) ∧ (∀ j : Nat, brF ns x k lo hi ≤ j → (j : Int) < hi → x < ns.getD j 0) := by
  intro k
  induction k with
  | zero =>
    intro lo hi h0 h1 h2 hs
    simp only [brF]
    exact ⟨Int.le_refl _, h1, fun j a b => absurd b (Int.not_lt.mpr a), fun j a b => absurd (Int.lt_of_le_of_lt a b) (nt0 h2)⟩
  | succ k ih =>
    intro lo hi h0 h1 h2 hs
    simp only [brF]
    by_cases h : lo < hi
    · rw [if_pos h]
      have m1 := md_lo h
      have m2 := md_hi h
      have mr := Nat.le_of_lt_succ (Nat.lt_of_lt_of_le (md_r h) h2)
      have ml := Nat.le_of_lt_succ (Nat.lt_of_lt_of_le (md_l h) h2)
      generalize (lo + hi).fdiv 2 = mid at *
      obtain ⟨md, rfl⟩ := Int.eq_ofNat_of_zero_le (Int.le_trans h0 m1)
      rw [Int.toNat_natCast]
      have m3 : lo ≤ (md : Int) + 1 := Int.le_trans m1 (Int.le_add_of_nonneg_right (by decide))
      by_cases hx : x < ns.getD md 0
      · rw [if_pos hx]
        obtain ⟨a, b, c, d⟩ := ih lo md h0 m1 ml (fun i j h3 h4 h5 => hs i j h3 h4 (Int.lt_trans h5 m2))
        refine ⟨a, Int.le_trans b (Int.le_of_lt m2), c, fun j h3 h4 => ?_⟩
        by_cases h5 : (j : Int) < md
        · exact d j h3 h5
        · exact Int.lt_of_lt_of_le hx (hs md j m1 (Int.ofNat_le.mp (Int.not_lt.mp h5)) h4)
      · rw [if_neg hx]
        obtain ⟨a, b, c, d⟩ := ih (md + 1) hi (Int.le_trans h0 m3) (Int.add_one_le_of_lt m2) mr (fun i j h3 h4 h5 => hs i j (Int.le_trans m3 h3) h4 h5)
        refine ⟨Int.le_trans m3 a, b, fun j h3 h4 => ?_, d⟩
        by_cases h5 : (md : Int) + 1 ≤ j
        · exact c j h5 h4
        · exact Int.le_trans (hs j md h3 (Int.ofNat_le.mp (Int.le_of_lt_add_one (Int.not_le.mp h5))) m2) (Int.not_lt.mp hx)
    · rw [if_neg h]
      exact ⟨Int.le_refl _, h1, fun j a b => absurd b (Int.not_lt.mpr a), fun j a b => absurd (Int.lt_of_le_of_lt a b) h⟩
/-- sorted upwards -/
abbrev Srt (l : List Int) : Prop := l.Pairwise (· ≤ ·)
theorem srt_get {l : List Int} (h : Srt l) {i j : Nat} (hij : i ≤ j) (hj : j < l.length) : l.getD i 0 ≤ l.getD j 0 := by
  have hi : i < l.length := by omega
  rw [List.getD_eq_getElem?_getD, List.getD_eq_getElem?_getD, List.getElem?_eq_getElem hi, List.getElem?_eq_getElem hj, Option.getD_some, Option.getD_some]
  rcases Nat.eq_or_lt_of_le hij with rfl | hlt
  · exact Int.le_refl _
  · exact List.pairwise_iff_getElem.mp h i j hi hj hlt
theorem srt_count {x : Int} : ∀ {l : List Int}, Srt l → ∀ j, j < l.length → (l.getD j 0 < x ↔ j < l.countP fun v => decide (v < x))
  | [], _, j, hj => by simp at hj
  | a :: l, h, j, hj => by
    obtain ⟨h1, h2⟩ := List.pairwise_cons.mp h
    rw [List.countP_cons]
    have ih := fun i hi => srt_count (x := x) h2 i hi
    by_cases ha : a < x
    · rw [if_pos (by simpa using ha)]
      cases j with
      | zero => simp [ha]
      | succ j =>
        have hj' : j < l.length := by simpa using hj
        have := ih j hj'
        rw [show (a :: l).getD (j + 1) 0 = l.getD j 0 from rfl, this]
        omega
    · have z : l.countP (fun v => decide (v < x)) = 0 := by
        rw [List.countP_eq_zero]
        intro v hv
        have := h1 v hv
        simp; omega
      rw [if_neg (by simpa using ha), z]
      cases j with
      | zero => simp; omega
      | succ j =>
        have hj' : j < l.length := by simpa using hj
        have e : l.getD j 0 = l[j] := by rw [List.getD_eq_getElem?_getD, List.getElem?_eq_getElem hj', Option.getD_some]
        have := h1 l[j] (List.getElem_mem hj')
        rw [show (a :: l).getD (j + 1) 0 = l.getD j 0 from rfl, e]
        omega
theorem seg_get {pre seg post : List Int} {j : Nat} (hj : j < seg.length) : (pre ++ seg ++ post).getD (pre.length + j) 0 = seg.getD j 0 := by
  simp only [List.getD_eq_getElem?_getD]
  rw [List.append_assoc, List.getElem?_append_right (by omega), show pre.length + j - pre.length = j by omega, List.getElem?_append_left hj]
/-- bisect_left in a part that is sorted -/
theorem bl_seg {ns pre seg post : List Int} (e : ns = pre ++ seg ++ post) (hs : Srt seg) (x : Int) {k : Nat} (hk : k ≤ seg.countP fun v => decide (v < x)) {lo hi : Int} (hlo : lo = pre.length + k) (hhi : hi = pre.length + seg.length) :
    bl ns x lo hi = pre.length + (seg.countP fun v => decide (v < x) : Nat) := by
  have hc : seg.countP (fun v => decide (v < x)) ≤ seg.length := List.countP_le_length
  have hsrt : ∀ i j : Nat, lo ≤ i → i ≤ j → (j : Int) < hi → ns.getD i 0 ≤ ns.getD j 0 := by
    intro i j h1 h2 h3
    obtain ⟨i', rfl⟩ : ∃ i', i = pre.length + i' := ⟨i - pre.length, by omega⟩
    obtain ⟨j', rfl⟩ : ∃ j', j = pre.length + j' := ⟨j - pre.length, by omega⟩
    rw [e, seg_get (by omega), seg_get (by omega)]
    exact srt_get hs (by omega) (by omega)
  obtain ⟨a, b, c, d⟩ := blF_spec ns x (hi - lo).toNat lo hi (by omega) (by omega) (Nat.le_refl _) hsrt
  show blF ns x (hi - lo).toNat lo hi = _
  generalize blF ns x (hi - lo).toNat lo hi = r at *
  obtain ⟨r', rfl⟩ : ∃ r' : Nat, r = pre.length + r' := ⟨(r - pre.length).toNat, by omega⟩
  rcases Nat.lt_trichotomy r' (seg.countP fun v => decide (v < x)) with h | h | h
  · have h1 := d (pre.length + r') (by omega) (by omega)
    rw [e, seg_get (by omega)] at h1
    have := (srt_count (x := x) hs r' (by omega)).mpr h
    omega
  · rw [h]
  · have h1 := c (pre.length + seg.countP fun v => decide (v < x)) (by omega) (by omega)
    rw [e, seg_get (by omega)] at h1
    have := (srt_count (x := x) hs _ (by omega)).mp h1
    omega
/-- an insertion where insort_right does it -/
theorem ins_srt {ns : List Int} (hs : Srt ns) (x : Int) : Srt (insL ns (br ns x 0 ns.length).toNat x) ∧ (insL ns (br ns x 0 ns.length).toNat x).Perm (x :: ns) := by
  obtain ⟨a, b, c, d⟩ := brF_spec ns x ((ns.length : Int) - 0).toNat 0 ns.length (by omega) (by omega) (Nat.le_refl _) (fun i j h1 h2 h3 => srt_get hs h2 (by omega))
  have e : br ns x 0 ns.length = brF ns x ((ns.length : Int) - 0).toNat 0 ns.length := rfl
  rw [e]
  generalize brF ns x ((ns.length : Int) - 0).toNat 0 ns.length = r at *
  obtain ⟨r', rfl⟩ : ∃ r' : Nat, r = r' := ⟨r.toNat, by omega⟩
  rw [Int.toNat_natCast]
  unfold insL
  have ht : ∀ v ∈ ns.take r', v ≤ x := fun v hv => by
    obtain ⟨j, hj, rfl⟩ := List.getElem_of_mem hv
    have hj2 : j < r' := by rw [List.length_take] at hj; omega
    have hj3 : j < ns.length := by rw [List.length_take] at hj; omega
    have := c j (by omega) (by omega)
    rw [List.getD_eq_getElem?_getD, List.getElem?_eq_getElem hj3, Option.getD_some] at this
    rw [List.getElem_take]; exact this
  have hd : ∀ v ∈ ns.drop r', x ≤ v := fun v hv => by
    obtain ⟨j, hj, rfl⟩ := List.getElem_of_mem hv
    have hj3 : r' + j < ns.length := by rw [List.length_drop] at hj; omega
    have := d (r' + j) (by omega) (by omega)
    rw [List.getD_eq_getElem?_getD, List.getElem?_eq_getElem hj3, Option.getD_some] at this
    rw [List.getElem_drop]; omega
  refine ⟨?_, List.perm_middle.trans (by rw [List.take_append_drop])⟩
  refine List.pairwise_append.mpr ⟨hs.sublist (List.take_sublist _ _), List.pairwise_cons.mpr ⟨hd, hs.sublist (List.drop_sublist _ _)⟩, fun u hu v hv => ?_⟩
  rcases List.mem_cons.mp hv with rfl | hv
  · exact ht u hu
  · exact Int.le_trans (ht u hu) (hd v hv)
/-! PM2 -/
theorem lexLt_irrefl : ∀ a : List Int, lexLt a a = false
  | [] => rfl
  | a :: as => by simp only [lexLt, if_true]; exact lexLt_irrefl as
theorem lexLt_trans : ∀ {a b c : List Int}, lexLt a b = true → lexLt b c = true → lexLt a c = true
  | [], [], _, h, _ => by simp [lexLt] at h
  | [], _ :: _, [], _, h => by simp [lexLt] at h
  | [], _ :: _, _ :: _, _, _ => rfl
  | _ :: _, [], _, h, _ => by simp [lexLt] at h
  | _ :: _, _ :: _, [], _, h => by simp [lexLt] at h
  | x :: a, y :: b, z :: c, h1, h2 => by
    simp only [lexLt] at h1 h2 ⊢
    by_cases e1 : x = y
    · subst e1
      rw [if_pos rfl] at h1
      by_cases e2 : x = z
      · subst e2
        rw [if_pos rfl] at h2 ⊢
        exact lexLt_trans h1 h2
      · rw [if_neg e2] at h2 ⊢
        exact h2
    · rw [if_neg e1] at h1
      have h1 := of_decide_eq_true h1
      by_cases e2 : y = z
      · subst e2
        rw [if_neg e1]
        exact decide_eq_true h1
      · rw [if_neg e2] at h2
        have h2 := of_decide_eq_true h2
        rw [if_neg (by omega)]
        exact decide_eq_true (by omega)
theorem lexLt_total : ∀ {a b : List Int}, a ≠ b → lexLt a b = false → lexLt b a = true
  | [], [], h, _ => absurd rfl h
  | [], _ :: _, _, h => by simp [lexLt] at h
  | _ :: _, [], _, _ => rfl
  | x :: a, y :: b, h1, h2 => by
    simp only [lexLt] at h2 ⊢
    by_cases e : x = y
    · subst e
      rw [if_pos rfl] at h2 ⊢
      exact lexLt_total (fun e => h1 (by rw [e])) h2
    · rw [if_neg e] at h2
      have h2 := of_decide_eq_false h2
      rw [if_neg (fun h => e h.symm)]
      exact decide_eq_true (by omega)
theorem lexLt_asymm {a b : List Int} (h : lexLt a b = true) : lexLt b a = false := by
  cases h2 : lexLt b a with
  | false => rfl
  | true => have := lexLt_trans h h2; rw [lexLt_irrefl] at this; cases this
/-- less than what is not greater -/
theorem lexLt_le {a b c : List Int} (h : lexLt a b = true) (h2 : lexLt c b = false) : lexLt a c = true := by
  by_cases e : c = b
  · subst e; exact h
  · exact lexLt_trans h (lexLt_total e h2)
theorem pre_not_lt : ∀ {W S : List Int}, W.isPrefixOf S = true → lexLt S W = false
  | [], [], _ => rfl
  | [], _ :: _, _ => rfl
  | _ :: _, [], h => by simp at h
  | a :: W, b :: S, h => by
    simp only [List.isPrefixOf_cons_cons, Bool.and_eq_true, beq_iff_eq] at h
    obtain ⟨rfl, h⟩ := h
    simp only [lexLt, if_true]
    exact pre_not_lt h
theorem lt_pre {W S T : List Int} (h : lexLt S W = true) (h2 : W.isPrefixOf T = true) : lexLt S T = true := lexLt_le h (pre_not_lt h2)
theorem pre_lt : ∀ {W S T : List Int}, W.isPrefixOf S = true → W.isPrefixOf T = false → lexLt T W = false → lexLt S T = true
  | [], _, _, _, h, _ => by simp at h
  | _ :: _, [], _, h, _, _ => by simp at h
  | _ :: _, _ :: _, [], _, _, h => by simp [lexLt] at h
  | a :: W, b :: S, c :: T, h1, h2, h3 => by
    simp only [List.isPrefixOf_cons_cons, Bool.and_eq_true, beq_iff_eq] at h1
    obtain ⟨rfl, h1⟩ := h1
    simp only [lexLt] at h3 ⊢
    by_cases e : c = a
    · subst e
      rw [if_pos rfl] at h3 ⊢
      simp only [List.isPrefixOf_cons_cons, beq_self_eq_true, Bool.true_and] at h2
      exact pre_lt h1 h2 h3
    · rw [if_neg e] at h3
      rw [if_neg (fun h => e h.symm)]
      have := of_decide_eq_false h3
      exact decide_eq_true (by omega)
/-- a word grown on the right -/
theorem lt_snoc {c : Int} : ∀ {U T : List Int}, lexLt T U = true → lexLt T (U ++ [c]) = true
  | [], [], h => by simp [lexLt] at h
  | [], _ :: _, h => by simp [lexLt] at h
  | _ :: _, [], _ => rfl
  | u :: U, t :: T, h => by
    simp only [lexLt, List.cons_append] at h ⊢
    by_cases e : t = u
    · rw [if_pos e] at h ⊢; exact lt_snoc h
    · rw [if_neg e] at h ⊢; exact h
theorem snoc_lt {c : Int} : ∀ {U T : List Int}, lexLt T (U ++ [c]) = true → U.isPrefixOf T = false → lexLt T U = true
  | [], _, _, h => by simp at h
  | _ :: _, [], _, _ => rfl
  | u :: U, t :: T, h, h2 => by
    simp only [lexLt, List.cons_append] at h ⊢
    by_cases e : t = u
    · subst e
      rw [if_pos rfl] at h ⊢
      simp only [List.isPrefixOf_cons_cons, beq_self_eq_true, Bool.true_and] at h2
      exact snoc_lt h h2
    · rw [if_neg e] at h ⊢; exact h
theorem lex_app : ∀ (U : List Int) {a b : List Int}, lexLt (U ++ a) (U ++ b) = lexLt a b
  | [], _, _ => rfl
  | u :: U, a, b => by
    simp only [lexLt, List.cons_append, if_true]
    exact lex_app U
/-! counts -/
theorem countP_lt {α : Type} {p q : α → Bool} : ∀ {l : List α} {a : α}, (∀ x ∈ l, p x = true → q x = true) → a ∈ l → q a = true → p a = false → l.countP p < l.countP q
  | [], _, _, h, _, _ => by cases h
  | b :: l, a, h1, h2, h3, h4 => by
    have hm : l.countP p ≤ l.countP q := List.countP_mono_left (fun x hx hp => h1 x (.tail _ hx) hp)
    rw [List.countP_cons, List.countP_cons]
    rcases List.mem_cons.mp h2 with rfl | h2
    · rw [h3, h4]; simp; omega
    · have ih := countP_lt (fun x hx hp => h1 x (.tail _ hx) hp) h2 h3 h4
      have := h1 b (.head _)
      cases hp : p b with
      | false => simp; split <;> omega
      | true => rw [this hp]; simp; omega
theorem countP_or {α : Type} {p q r : α → Bool} : ∀ {l : List α}, (∀ x ∈ l, (r x = true ↔ p x = true ∨ q x = true) ∧ ¬ (p x = true ∧ q x = true)) → l.countP r = l.countP p + l.countP q
  | [], _ => rfl
  | b :: l, h => by
    have ih := countP_or (p := p) (q := q) (r := r) (l := l) (fun x hx => h x (.tail _ hx))
    rw [List.countP_cons, List.countP_cons, List.countP_cons, ih]
    have := h b (.head _)
    cases hp : p b <;> cases hq : q b <;> cases hr : r b <;> simp [hp, hq, hr] at this ⊢ <;> omega
theorem countP_ext {α : Type} {p q : α → Bool} {l : List α} (h : ∀ x ∈ l, p x = q x) : l.countP p = l.countP q := by
  induction l with
  | nil => rfl
  | cons b l ih =>
    rw [List.countP_cons, List.countP_cons, ih (fun x hx => h x (.tail _ hx)), h b (.head _)]
/-- the ranks of the suffixes and a word -/
theorem rank_lo {tx W : List Int} {i : Nat} (hi : i < 7) : rL tx i < loN tx W ↔ lexLt (tx.drop i) W = true := by
  constructor
  · intro h
    cases hw : lexLt (tx.drop i) W with
    | true => rfl
    | false =>
      have : loN tx W ≤ rL tx i := List.countP_mono_left fun j _ hj => lexLt_le hj hw
      omega
  · intro h
    exact countP_lt (a := i) (fun j _ hj => lexLt_trans hj h) (List.mem_range.mpr hi) h (lexLt_irrefl _)
theorem lo_wi (tx W : List Int) : loN tx W + wiN tx W = (List.range 7).countP fun k => lexLt (tx.drop k) W || W.isPrefixOf (tx.drop k) :=
  (countP_or fun k _ => ⟨by rw [Bool.or_eq_true], fun h => by have := pre_not_lt h.2; rw [h.1] at this; cases this⟩).symm
theorem rank_hi {tx W : List Int} {i : Nat} (hi : i < 7) : rL tx i < loN tx W + wiN tx W ↔ (lexLt (tx.drop i) W || W.isPrefixOf (tx.drop i)) = true := by
  rw [lo_wi]
  constructor
  · intro h
    cases hw : (lexLt (tx.drop i) W || W.isPrefixOf (tx.drop i)) with
    | true => rfl
    | false =>
      rw [Bool.or_eq_false_iff] at hw
      have : ((List.range 7).countP fun k => lexLt (tx.drop k) W || W.isPrefixOf (tx.drop k)) ≤ rL tx i := List.countP_mono_left fun j _ hj => by
        rw [Bool.or_eq_true] at hj
        rcases hj with hj | hj
        · exact lexLt_le hj hw.1
        · exact pre_lt hj hw.2 hw.1
      omega
  · intro h
    refine countP_lt (a := i) (fun j _ hj => ?_) (List.mem_range.mpr hi) h (lexLt_irrefl _)
    rw [Bool.or_eq_true] at h
    rcases h with h | h
    · rw [lexLt_trans hj h, Bool.true_or]
    · cases h1 : lexLt (tx.drop j) W with
      | true => rfl
      | false =>
        cases h2 : W.isPrefixOf (tx.drop j) with
        | true => rfl
        | false =>
          have := lexLt_asymm (pre_lt h h2 h1)
          rw [hj] at this; cases this
theorem rank_in {tx W : List Int} {i : Nat} (hi : i < 7) : (loN tx W ≤ rL tx i ∧ rL tx i < loN tx W + wiN tx W) ↔ W.isPrefixOf (tx.drop i) = true := by
  have h1 := rank_lo (tx := tx) (W := W) hi
  have h2 := rank_hi (tx := tx) (W := W) hi
  rw [h2, ← Nat.not_lt, h1, Bool.or_eq_true]
  constructor
  · rintro ⟨a, b | b⟩
    · exact absurd b a
    · exact b
  · intro h
    refine ⟨?_, .inr h⟩
    rw [pre_not_lt h]; decide
theorem pm_rank {tx : List Int} (ht : Txt tx) : RankOk tx := by
  have hf : ∀ i j, i < 7 → j < 7 → lexLt (tx.drop i) (tx.drop j) = decide (rL tx i < rL tx j) := fun i j hi hj => by
    have := rank_lo (tx := tx) (W := tx.drop j) hi
    rw [show loN tx (tx.drop j) = rL tx j from rfl] at this
    by_cases h : rL tx i < rL tx j
    · rw [this.mp h, decide_eq_true h]
    · rw [decide_eq_false h]
      cases hh : lexLt (tx.drop i) (tx.drop j) with
      | false => rfl
      | true => exact absurd (this.mpr hh) h
  refine ⟨hf, fun i j hi hj e => ?_, fun i hi => ?_⟩
  · have h1 := hf i j hi hj
    have h2 := hf j i hj hi
    rw [decide_eq_false (by omega)] at h1 h2
    have h3 : tx.drop i = tx.drop j := by
      rcases Decidable.em (tx.drop i = tx.drop j) with h | h
      · exact h
      · have := lexLt_total h h1; rw [h2] at this; cases this
    have h4 := congrArg List.length h3
    rw [List.length_drop, List.length_drop, ht.len] at h4
    omega
  · have := countP_lt (p := fun j => lexLt (tx.drop j) (tx.drop i)) (q := fun _ => true) (l := List.range 7) (a := i) (fun _ _ _ => rfl) (List.mem_range.mpr hi) rfl (lexLt_irrefl _)
    rw [List.countP_true, List.length_range] at this
    exact this
theorem cmpL_rep : ∀ m : Nat, cmpL (List.replicate m 0) (List.replicate m 0) = 0
  | 0 => rfl
  | m + 1 => by
    rw [List.replicate_succ]
    simp only [cmpL]
    rw [if_neg (by decide), if_neg (by decide)]
    exact cmpL_rep m
theorem cmpL_lex : ∀ {a b : List Int} {m n : Nat}, a.length + m = b.length + n → (∀ x ∈ a, 1 ≤ x) → (∀ x ∈ b, 1 ≤ x) → (cmpL (a ++ List.replicate m 0) (b ++ List.replicate n 0) < 0 ↔ lexLt a b = true)
  | [], [], m, n, h, _, _ => by
    simp only [List.length_nil, Nat.zero_add] at h
    subst h
    simp only [List.nil_append, cmpL_rep]
    decide
  | [], y :: b, m, n, h, _, hb => by
    obtain ⟨m, rfl⟩ : ∃ m', m = m' + 1 := ⟨b.length + n, by simp only [List.length_nil, List.length_cons] at h; omega⟩
    have := hb y (.head _)
    rw [List.nil_append, List.replicate_succ, List.cons_append]
    simp only [cmpL, lexLt]
    rw [if_pos (by omega)]
    decide
  | x :: a, [], m, n, h, ha, _ => by
    obtain ⟨n, rfl⟩ : ∃ n', n = n' + 1 := ⟨a.length + m, by simp only [List.length_nil, List.length_cons] at h; omega⟩
    have := ha x (.head _)
    rw [List.nil_append, List.replicate_succ, List.cons_append]
    simp only [cmpL, lexLt]
    rw [if_neg (by omega), if_pos (by omega)]
    decide
  | x :: a, y :: b, m, n, h, ha, hb => by
    rw [List.cons_append, List.cons_append]
    simp only [cmpL, lexLt]
    have ih := cmpL_lex (a := a) (b := b) (m := m) (n := n) (by simp only [List.length_cons] at h; omega) (fun v hv => ha v (.tail _ hv)) (fun v hv => hb v (.tail _ hv))
    by_cases h1 : x < y
    · rw [if_pos h1, if_neg (by omega), decide_eq_true h1]; decide
    · rw [if_neg h1]
      by_cases h2 : y < x
      · rw [if_pos h2, if_neg (by omega), decide_eq_false h1]; decide
      · rw [if_neg h2, if_pos (by omega)]; exact ih
theorem rnk_eq {tx : List Int} (ht : Txt tx) {i : Nat} (hi : i < 7) : rnkI tx i = ((rL tx i : Nat) : Int) := by
  unfold rnkI rL
  congr 1
  refine countP_ext fun j hj => ?_
  have hj := List.mem_range.mp hj
  have h := cmpL_lex (a := tx.drop j) (b := tx.drop i) (m := j) (n := i) (by rw [List.length_drop, List.length_drop, ht.len]; omega) (fun x hx => (ht.rng x (List.mem_of_mem_drop hx)).1) (fun x hx => (ht.rng x (List.mem_of_mem_drop hx)).1)
  show decide (cmpL (tx.drop j ++ List.replicate j 0) (tx.drop i ++ List.replicate i 0) < 0) = _
  cases h2 : lexLt (tx.drop j) (tx.drop i) with
  | true => exact decide_eq_true (h.mpr h2)
  | false => exact decide_eq_false fun h3 => by have := h.mp h3; rw [h2] at this; cases this
theorem pm_rks {tx : List Int} (ht : Txt tx) : rks tx 7 = (List.range 7).map fun i => ((rL tx i : Nat) : Int) := by
  unfold rks
  exact List.map_congr_left fun i hi => rnk_eq ht (List.mem_range.mp hi)
/-! PM3 -/
/-! the buckets -/
theorem bkt_srt (tx : List Int) (l : Int) : ∀ i, Srt (bkt tx l i)
  | 0 => List.Pairwise.nil
  | i + 1 => by
    simp only [bkt]
    split
    · exact (ins_srt (bkt_srt tx l i) _).1
    · exact bkt_srt tx l i
theorem bkt_perm (tx : List Int) (l : Int) : ∀ i, (bkt tx l i).Perm (((List.range i).filter fun j => decide (ltr tx j = l)).map (rnkI tx))
  | 0 => by simp [bkt]
  | i + 1 => by
    simp only [bkt]
    rw [List.range_succ, List.filter_append, List.map_append]
    by_cases h : ltr tx i = l
    · rw [if_pos h]
      have e : [i].filter (fun j => decide (ltr tx j = l)) = [i] := by simp [h]
      rw [e]
      refine (ins_srt (bkt_srt tx l i) _).2.trans ?_
      refine (List.Perm.cons _ (bkt_perm tx l i)).trans ?_
      exact (List.perm_append_comm (l₁ := [rnkI tx i]))
    · rw [if_neg h]
      have e : [i].filter (fun j => decide (ltr tx j = l)) = [] := by simp [h]
      rw [e, List.map_nil, List.append_nil]
      exact bkt_perm tx l i
theorem bkt_count (tx : List Int) (l : Int) (q : Int → Bool) : (bkt tx l 7).countP q = (List.range 7).countP fun j => decide (ltr tx j = l) && q (rnkI tx j) := by
  rw [(bkt_perm tx l 7).countP_eq, List.countP_map, List.countP_filter]
  exact countP_ext fun j _ => by rw [Bool.and_comm]; rfl
theorem bkt_length (tx : List Int) (l : Int) : (bkt tx l 7).length = (List.range 7).countP fun j => decide (ltr tx j = l) := by
  have h := bkt_count tx l (fun _ => true)
  rw [List.countP_true] at h
  rw [h]
  exact countP_ext fun j _ => Bool.and_true _
/-! the tally -/
theorem look_put {k v k' : Int} : ∀ (c : List (Int × Int)), kdfLook (kdfPut c k v) k' 0 = if k' = k then v else kdfLook c k' 0 := by
  intro c
  have hm : ∀ c : List (Int × Int), kdfLook (c.map fun p => if decide (p.1 = k) = true then (p.1, v) else p) k' 0 = if k' = k ∧ kdfHas c k = true then v else kdfLook c k' 0 := by
    intro c
    induction c with
    | nil => simp [kdfLook, kdfHas]
    | cons p c ih =>
      obtain ⟨a, b⟩ := p
      unfold kdfLook kdfHas at ih ⊢
      rw [List.map_cons, List.find?_cons, List.find?_cons, List.any_cons]
      by_cases h : a = k
      · subst h
        by_cases h2 : a = k'
        · subst h2; simp
        · have h3 : ¬ k' = a := fun e => h2 e.symm
          simp only [h2, decide_true, decide_false, if_true, h3, false_and, if_false] at ih ⊢
          exact ih
      · by_cases h2 : a = k'
        · subst h2; simp [h]
        · simp only [h, h2, decide_false, Bool.false_or] at ih ⊢
          simpa [h, h2] using ih
  have ha : ∀ c : List (Int × Int), kdfHas c k = false → kdfLook (c ++ [(k, v)]) k' 0 = if k' = k then v else kdfLook c k' 0 := by
    intro c
    induction c with
    | nil =>
      intro _
      unfold kdfLook
      by_cases h : k' = k
      · subst h; simp
      · have h' : ¬ k = k' := fun e => h e.symm
        simp [h, h']
    | cons p c ih =>
      obtain ⟨a, b⟩ := p
      intro hh
      unfold kdfHas at hh
      rw [List.any_cons, Bool.or_eq_false_iff] at hh
      have ih := ih hh.2
      have h1 : ¬ a = k := of_decide_eq_false hh.1
      unfold kdfLook at ih ⊢
      rw [List.cons_append, List.find?_cons, List.find?_cons]
      by_cases h2 : a = k'
      · subst h2; simp [h1]
      · simp only [h2, decide_false] at ih ⊢
        exact ih
  unfold kdfPut
  by_cases h : (c.any fun p => decide (p.1 = k)) = true
  · rw [if_pos h, hm]
    have : kdfHas c k = true := h
    simp [this]
  · rw [if_neg h]
    exact ha c (Bool.eq_false_iff.mpr h)
theorem keys_put {k v : Int} (c : List (Int × Int)) : (kdfPut c k v).map (·.1) = if kdfHas c k = true then c.map (·.1) else c.map (·.1) ++ [k] := by
  unfold kdfPut kdfHas
  split
  · rw [List.map_map]
    refine List.map_congr_left fun p _ => ?_
    show (if decide (p.1 = k) = true then (p.1, v) else p).1 = p.1
    split <;> rfl
  · rw [List.map_append]; rfl
theorem has_keys (c : List (Int × Int)) (k : Int) : kdfHas c k = true ↔ k ∈ c.map (·.1) := by
  unfold kdfHas
  rw [List.any_eq_true, List.mem_map]
  constructor
  · rintro ⟨p, h1, h2⟩; exact ⟨p, h1, of_decide_eq_true h2⟩
  · rintro ⟨p, h1, h2⟩; exact ⟨p, h1, decide_eq_true h2⟩
theorem tly_nodup (tx : List Int) : ∀ i, ((tly tx i).map (·.1)).Nodup
  | 0 => List.nodup_nil
  | i + 1 => addC_nodup (tly_nodup tx i) _
theorem tly_look (tx : List Int) (k : Int) : ∀ i, kdfLook (tly tx i) k 0 = (((List.range i).countP fun j => decide (ltr tx j = k) : Nat) : Int)
  | 0 => rfl
  | i + 1 => by
    simp only [tly]
    rw [addC_one (tly_nodup tx i), look_put, tly_look tx k i, List.range_succ, List.countP_append, List.countP_cons, List.countP_nil]
    by_cases h : k = ltr tx i
    · subst h
      rw [if_pos rfl, tly_look tx _ i]
      simp
    · rw [if_neg h]
      have h' : ¬ ltr tx i = k := fun e => h e.symm
      simp [h']
theorem look_none {c : List (Int × Int)} {k : Int} (h : k ∉ c.map (·.1)) : kdfLook c k 0 = 0 := by
  unfold kdfLook
  rw [List.find?_eq_none.mpr ?_]
  · rfl
  · intro p hp
    simp only [decide_eq_true_eq]
    intro e
    exact h (List.mem_map.mpr ⟨p, hp, e⟩)
theorem perm_sum {a b : List Int} (h : a.Perm b) : a.sum = b.sum := by
  induction h with
  | nil => rfl
  | cons x _ ih => rw [List.sum_cons, List.sum_cons, ih]
  | swap x y l => simp only [List.sum_cons]; omega
  | trans _ _ h1 h2 => rw [h1, h2]
/-- sums over the keys of a list that holds none twice -/
theorem sum_keys {f : Int → Int} {pz : Int → Bool} {u : List Int} (hu : u.Nodup) : ∀ {ks : List Int}, ks.Nodup → (∀ k ∈ ks, k ∈ u) → (∀ k ∈ u, k ∉ ks → f k = 0) → ((ks.filter pz).map f).sum = ((u.filter pz).map f).sum := by
  induction u with
  | nil =>
    intro ks _ h _
    cases ks with
    | nil => rfl
    | cons a ks => exact absurd (h a (.head _)) (by simp)
  | cons x u ih =>
    intro ks hk h1 h2
    obtain ⟨hx, hu'⟩ := List.nodup_cons.mp hu
    by_cases hm : x ∈ ks
    · have hp := List.perm_cons_erase hm
      have hp2 := perm_sum ((hp.filter pz).map f)
      rw [hp2]
      have hn : (ks.erase x).Nodup := hk.erase _
      have hnx : x ∉ ks.erase x := hk.not_mem_erase
      have := ih hu' (ks := ks.erase x) hn (fun k hk' => by
        rcases List.mem_cons.mp (h1 k (List.mem_of_mem_erase hk')) with rfl | h
        · exact absurd hk' hnx
        · exact h) (fun k hk' hn' => h2 k (.tail _ hk') (fun h => hn' ((List.mem_erase_of_ne (fun e : k = x => hx (e ▸ hk'))).mpr h)))
      rw [List.filter_cons, List.filter_cons]
      split
      · rw [List.map_cons, List.map_cons, List.sum_cons, List.sum_cons, this]
      · exact this
    · have := ih hu' hk (fun k hk' => by
        rcases List.mem_cons.mp (h1 k hk') with rfl | h
        · exact absurd hk' hm
        · exact h) (fun k hk' hn' => h2 k (.tail _ hk') hn')
      rw [this, List.filter_cons]
      split
      · rw [List.map_cons, List.sum_cons, h2 x (.head _) hm, Int.zero_add]
      · rfl
section
variable {tx : List Int} (ht : Txt tx)
include ht
theorem ltr_rng {i : Nat} (hi : i < 7) : 0 ≤ ltr tx i ∧ ltr tx i ≤ 3 := by
  unfold ltr
  split
  · decide
  · have h1 : i - 1 < tx.length := by rw [ht.len]; omega
    rw [List.getD_eq_getElem?_getD, List.getElem?_eq_getElem h1, Option.getD_some]
    have := ht.rng _ (List.getElem_mem h1)
    omega
theorem tly_keys {i : Nat} (hi : i ≤ 7) : ∀ k ∈ (tly tx i).map (·.1), k ∈ ([0, 1, 2, 3] : List Int) := by
  induction i with
  | zero => intro k hk; cases hk
  | succ i ih =>
    intro k hk
    simp only [tly] at hk
    rw [addC_one (tly_nodup tx i), keys_put] at hk
    have ih := ih (by omega)
    split at hk
    · exact ih k hk
    · rcases List.mem_append.mp hk with hk | hk
      · exact ih k hk
      · rw [List.mem_singleton.mp hk]
        have h : 0 ≤ ltr tx i ∧ ltr tx i ≤ 3 := ltr_rng ht (by omega)
        have := four_of h.1 h.2
        rcases this with h | h | h | h <;> rw [h] <;> simp
theorem begI_sum (l : Nat) : begI tx l = ((([0, 1, 2, 3] : List Int).filter fun k => decide (k < (l : Int))).map fun k => (((List.range 7).countP fun j => decide (ltr tx j = k) : Nat) : Int)).sum := by
  unfold begI dsub
  rw [List.map_map]
  have e : ((fun x : Int × Int => x.2) ∘ fun k => (k, kdfLook (tly tx 7) k 0)) = fun k => (((List.range 7).countP fun j => decide (ltr tx j = k) : Nat) : Int) := by
    funext k
    rw [Function.comp_apply]
    dsimp only
    rw [tly_look]
  rw [e]
  refine sum_keys (by decide) (tly_nodup tx 7) (tly_keys ht (Nat.le_refl _)) fun k _ hk => ?_
  rw [← tly_look, look_none hk]
omit ht in
theorem count_succ (q : Nat → Bool) (c : Nat) : ((List.range 7).countP fun j => decide (ltr tx j < ((c + 1 : Nat) : Int)) && q j) = ((List.range 7).countP fun j => decide (ltr tx j < (c : Int)) && q j) + ((List.range 7).countP fun j => decide (ltr tx j = (c : Int)) && q j) := by
  refine countP_or fun j hj => ?_
  simp only [Bool.and_eq_true, decide_eq_true_eq]
  constructor
  · constructor
    · rintro ⟨a, b⟩
      rcases Int.lt_or_eq_of_le (show ltr tx j ≤ (c : Int) by omega) with h | h
      · exact .inl ⟨h, b⟩
      · exact .inr ⟨h, b⟩
    · rintro (⟨a, b⟩ | ⟨a, b⟩)
      · exact ⟨by omega, b⟩
      · exact ⟨by omega, b⟩
  · rintro ⟨⟨a, _⟩, ⟨b, _⟩⟩; omega
theorem count_zero (q : Nat → Bool) : ((List.range 7).countP fun j => decide (ltr tx j < ((0 : Nat) : Int)) && q j) = 0 := by
  rw [List.countP_eq_zero]
  intro j hj
  have : 0 ≤ ltr tx j ∧ ltr tx j ≤ 3 := ltr_rng ht (List.mem_range.mp hj)
  simp only [Bool.and_eq_true, decide_eq_true_eq]
  omega
theorem begI_count {l : Nat} (hl : l ≤ 4) : begI tx l = (((List.range 7).countP fun j => decide (ltr tx j < (l : Int)) : Nat) : Int) := by
  have s := fun c => count_succ (tx := tx) (fun _ => true) c
  have z := count_zero ht (fun _ => true)
  simp only [Bool.and_true] at s z
  rw [begI_sum ht]
  have h := le_four hl
  rcases h with rfl | rfl | rfl | rfl | rfl
  · rw [z]; rfl
  · rw [s, z]; simp
  · rw [s, s, z]; simp
  · rw [s, s, s, z]; simp; omega
  · rw [s, s, s, s, z]; simp; omega
theorem begI_four : begI tx 4 = 7 := by
  rw [begI_count ht (by decide), List.countP_eq_length.mpr ?_, List.length_range]
  · rfl
  · intro j hj
    have : 0 ≤ ltr tx j ∧ ltr tx j ≤ 3 := ltr_rng ht (List.mem_range.mp hj)
    simp only [decide_eq_true_eq]
    omega
theorem begI_succ {c : Nat} (hc : c < 4) : begI tx (c + 1) = begI tx c + (bkt tx c 7).length := by
  have s := count_succ (tx := tx) (fun _ => true) c
  simp only [Bool.and_true] at s
  rw [begI_count ht (by omega), begI_count ht (by omega), bkt_length, s]
  omega
theorem begI_zero : begI tx 0 = 0 := by
  have z := count_zero ht (fun _ => true)
  simp only [Bool.and_true] at z
  rw [begI_count ht (by omega), z]
  rfl
/-- the part of a letter -/
theorem laid_seg {c : Nat} (hc : c < 4) : ∃ pre post, laidL tx = pre ++ bkt tx c 7 ++ post ∧ (pre.length : Int) = begI tx c := by
  have z := begI_zero ht
  have s0 := begI_succ ht (c := 0) (by decide)
  have s1 := begI_succ ht (c := 1) (by decide)
  have s2 := begI_succ ht (c := 2) (by decide)
  have h : c = 0 ∨ c = 1 ∨ c = 2 ∨ c = 3 := by omega
  unfold laidL
  rcases h with rfl | rfl | rfl | rfl
  · exact ⟨[], bkt tx 1 7 ++ bkt tx 2 7 ++ bkt tx 3 7, by simp [List.append_assoc], by rw [z]; rfl⟩
  · exact ⟨bkt tx 0 7, bkt tx 2 7 ++ bkt tx 3 7, by simp [List.append_assoc], by rw [s0, z]; simp⟩
  · exact ⟨bkt tx 0 7 ++ bkt tx 1 7, bkt tx 3 7, by simp [List.append_assoc], by rw [s1, s0, z, List.length_append]; simp⟩
  · exact ⟨bkt tx 0 7 ++ bkt tx 1 7 ++ bkt tx 2 7, [], by simp, by rw [s2, s1, s0, z, List.length_append, List.length_append]; simp⟩
theorem pm_laid_len : (laidL tx).length = 7 := by
  have z := begI_zero ht
  have s0 := begI_succ ht (c := 0) (by decide)
  have s1 := begI_succ ht (c := 1) (by decide)
  have s2 := begI_succ ht (c := 2) (by decide)
  have s3 := begI_succ ht (c := 3) (by decide)
  have f := begI_four ht
  unfold laidL
  simp only [List.length_append]
  have e0 : ((0 : Nat) : Int) = 0 := rfl
  have e1 : ((1 : Nat) : Int) = 1 := rfl
  have e2 : ((2 : Nat) : Int) = 2 := rfl
  have e3 : ((3 : Nat) : Int) = 3 := rfl
  rw [e0] at s0
  rw [e1] at s1
  rw [e2] at s2
  rw [e3] at s3
  rw [Nat.zero_add] at s0
  rw [show 1 + 1 = 2 from rfl] at s1
  rw [show 2 + 1 = 3 from rfl] at s2
  rw [show 3 + 1 = 4 from rfl] at s3
  omega
omit ht in
theorem begL_at {c : Nat} (hc : c < 5) : (begL tx).getD c 0 = begI tx c := by
  unfold begL
  rw [List.getD_eq_getElem?_getD, List.getElem?_map, List.getElem?_range hc, Option.map_some, Option.getD_some]
theorem begI_le {c : Nat} (hc : c ≤ 4) : 0 ≤ begI tx c ∧ begI tx c ≤ 7 := by
  rw [begI_count ht hc]
  have := List.countP_le_length (p := fun j => decide (ltr tx j < (c : Int))) (l := List.range 7)
  rw [List.length_range] at this
  omega
theorem pm_begs : Begs (begL tx) := by
  intro i hi
  rw [begL_at (by omega), begL_at (by omega), begI_succ ht hi]
  have h1 := begI_le ht (c := i) (by omega)
  have h2 := begI_le ht (c := i + 1) (by omega)
  rw [begI_succ ht hi] at h2
  omega
end
/-! PM4 -/
section
variable {tx : List Int} (ht : Txt tx)
include ht
theorem cnt_lt {x : Nat} {c : Nat} {q : Nat → Bool} (hq : ∀ i, i < 7 → (rL tx i < x ↔ q i = true)) : (bkt tx (c : Int) 7).countP (fun v => decide (v < (x : Int))) = (List.range 7).countP fun j => decide (ltr tx j = (c : Int)) && q j := by
  rw [bkt_count]
  refine countP_ext fun j hj => ?_
  have hj := List.mem_range.mp hj
  rw [rnk_eq ht hj]
  congr 1
  have h := hq j hj
  cases h2 : q j with
  | true => exact decide_eq_true (by exact_mod_cast h.mpr h2)
  | false => exact decide_eq_false fun h3 => by rw [h.mp (by exact_mod_cast h3)] at h2; cases h2
/-- where the old first one comes in a letter's row -/
theorem grA_eq {W : List Int} {c : Nat} (hc : c < 4) : grA (laidL tx) (begL tx) (loN tx W) c = begI tx c + (((List.range 7).countP fun j => decide (ltr tx j = (c : Int)) && lexLt (tx.drop j) W : Nat) : Int) := by
  obtain ⟨pre, post, e, hp⟩ := laid_seg ht hc
  have hcnt := cnt_lt ht (c := c) (x := loN tx W) (q := fun j => lexLt (tx.drop j) W) (fun i hi => rank_lo hi)
  unfold grA
  rw [begL_at (by omega), begL_at (by omega), begI_succ ht hc]
  rw [bl_seg e (bkt_srt tx _ 7) _ (k := 0) (Nat.zero_le _) (by rw [← hp]; simp) (by rw [← hp]), hcnt, hp]
theorem grB_eq {W : List Int} {c : Nat} (hc : c < 4) : grB (laidL tx) (begL tx) (loN tx W) (wiN tx W) c = begI tx c + (((List.range 7).countP fun j => decide (ltr tx j = (c : Int)) && (lexLt (tx.drop j) W || W.isPrefixOf (tx.drop j)) : Nat) : Int) := by
  obtain ⟨pre, post, e, hp⟩ := laid_seg ht hc
  have hcnt := cnt_lt ht (c := c) (x := loN tx W + wiN tx W) (q := fun j => lexLt (tx.drop j) W || W.isPrefixOf (tx.drop j)) (fun i hi => rank_hi hi)
  have hcnt0 := cnt_lt ht (c := c) (x := loN tx W) (q := fun j => lexLt (tx.drop j) W) (fun i hi => rank_lo hi)
  have hle : ((List.range 7).countP fun j => decide (ltr tx j = (c : Int)) && lexLt (tx.drop j) W) ≤ (List.range 7).countP fun j => decide (ltr tx j = (c : Int)) && (lexLt (tx.drop j) W || W.isPrefixOf (tx.drop j)) :=
    List.countP_mono_left fun j _ hj => by
      simp only [Bool.and_eq_true, Bool.or_eq_true] at hj ⊢
      exact ⟨hj.1, .inl hj.2⟩
  unfold grB
  rw [grA_eq ht hc, begL_at (by omega), begI_succ ht hc, show ((loN tx W : Nat) : Int) + ((wiN tx W : Nat) : Int) = ((loN tx W + wiN tx W : Nat) : Int) by omega]
  rw [bl_seg e (bkt_srt tx _ 7) _ (k := (List.range 7).countP fun j => decide (ltr tx j = (c : Int)) && lexLt (tx.drop j) W) (by rw [hcnt]; exact hle) (by rw [← hp]) (by rw [← hp]), hcnt, hp]
theorem grW_eq {W : List Int} {c : Nat} (hc : c < 4) : grW (laidL tx) (begL tx) (loN tx W) (wiN tx W) c = (((List.range 7).countP fun j => decide (ltr tx j = (c : Int)) && W.isPrefixOf (tx.drop j) : Nat) : Int) := by
  unfold grW
  rw [grB_eq ht hc, grA_eq ht hc]
  have := countP_or (p := fun j => decide (ltr tx j = (c : Int)) && lexLt (tx.drop j) W) (q := fun j => decide (ltr tx j = (c : Int)) && W.isPrefixOf (tx.drop j)) (r := fun j => decide (ltr tx j = (c : Int)) && (lexLt (tx.drop j) W || W.isPrefixOf (tx.drop j))) (l := List.range 7) (fun j _ => by
    have h := pre_not_lt (W := W) (S := tx.drop j)
    cases h1 : lexLt (tx.drop j) W <;> cases h2 : W.isPrefixOf (tx.drop j) <;> cases h3 : decide (ltr tx j = (c : Int)) <;> simp [h1, h2] at h ⊢)
  omega
theorem grSum_eq {W : List Int} {c : Nat} (hc : c ≤ 4) : grSum (laidL tx) (begL tx) (loN tx W) (wiN tx W) c = (((List.range 7).countP fun j => decide (ltr tx j < (c : Int)) && W.isPrefixOf (tx.drop j) : Nat) : Int) := by
  induction c with
  | zero => rw [count_zero ht]; rfl
  | succ c ih =>
    simp only [grSum]
    rw [ih (by omega), grW_eq ht (by omega), count_succ]
    omega
omit ht in
/-- from a suffix to the one that begins a letter ahead of it -/
theorem shift_count {p q : Nat → Bool} (h0 : p 0 = q 6) (hs : ∀ k, k < 6 → p (k + 1) = q k) : (List.range 7).countP p = (List.range 7).countP q := by
  have e1 : (List.range 7).countP p = ((List.range 6).countP (p ∘ Nat.succ)) + if p 0 = true then 1 else 0 := by
    rw [List.range_succ_eq_map, List.countP_cons, List.countP_map]
  have e2 : (List.range 7).countP q = (List.range 6).countP q + if q 6 = true then 1 else 0 := by
    rw [show List.range 7 = List.range 6 ++ [6] from List.range_succ, List.countP_append, List.countP_cons, List.countP_nil, Nat.zero_add]
  rw [e1, e2, h0, countP_ext (p := p ∘ Nat.succ) (q := q) (fun k hk => hs k (List.mem_range.mp hk))]
theorem drop_step {k : Nat} (hk : k < 6) : tx.drop k = ltr tx (k + 1) :: tx.drop (k + 1) := by
  have h1 : k < tx.length := by rw [ht.len]; exact hk
  rw [List.drop_eq_getElem_cons h1]
  unfold ltr
  rw [if_neg (by omega), Nat.add_sub_cancel, List.getD_eq_getElem?_getD, List.getElem?_eq_getElem h1, Option.getD_some]
theorem drop_six : tx.drop 6 = [] := List.drop_eq_nil_of_le (by rw [ht.len]; decide)
theorem lo_cons {W : List Int} {c : Nat} (h1 : 1 ≤ c) (hc : c < 4) : grA (laidL tx) (begL tx) (loN tx W) c = loN tx ((c : Int) :: W) := by
  rw [grA_eq ht hc, begI_count ht (by omega)]
  have h := countP_or (p := fun j => decide (ltr tx j < (c : Int))) (q := fun j => decide (ltr tx j = (c : Int)) && lexLt (tx.drop j) W) (r := fun j => decide (ltr tx j < (c : Int)) || (decide (ltr tx j = (c : Int)) && lexLt (tx.drop j) W)) (l := List.range 7) (fun j _ => by
    rw [Bool.or_eq_true]
    refine ⟨Iff.rfl, fun h => ?_⟩
    rw [Bool.and_eq_true] at h
    have a := of_decide_eq_true h.1
    have b := of_decide_eq_true h.2.1
    omega)
  have h2 : (List.range 7).countP (fun j => decide (ltr tx j < (c : Int)) || (decide (ltr tx j = (c : Int)) && lexLt (tx.drop j) W)) = loN tx ((c : Int) :: W) := by
    refine shift_count ?_ fun k hk => ?_
    · rw [drop_six ht]
      have : decide (ltr tx 0 < (c : Int)) = true := decide_eq_true (by unfold ltr; rw [if_pos rfl]; omega)
      rw [this]; rfl
    · rw [drop_step ht hk]
      simp only [lexLt]
      by_cases e : ltr tx (k + 1) = c
      · rw [if_pos e, decide_eq_true e, decide_eq_false (by omega)]; rfl
      · rw [if_neg e, decide_eq_false e, Bool.false_and, Bool.or_false]
  rw [← h2, h]
  omega
theorem wi_cons {W : List Int} {c : Nat} (h1 : 1 ≤ c) (hc : c < 4) : grW (laidL tx) (begL tx) (loN tx W) (wiN tx W) c = wiN tx ((c : Int) :: W) := by
  rw [grW_eq ht hc]
  congr 1
  refine shift_count ?_ fun k hk => ?_
  · rw [drop_six ht]
    have : decide (ltr tx 0 = (c : Int)) = false := decide_eq_false (by unfold ltr; rw [if_pos rfl]; omega)
    rw [this]; rfl
  · rw [drop_step ht hk, List.isPrefixOf_cons_cons]
    congr 1
    by_cases e : ltr tx (k + 1) = c
    · rw [decide_eq_true e, beq_iff_eq.mpr e.symm]
    · rw [decide_eq_false e, beq_eq_false_iff_ne.mpr (fun h => e h.symm)]
end
/-! the text turned about -/
theorem pre_take {W S : List Int} : W.isPrefixOf S = true ↔ S.take W.length = W := by
  rw [List.isPrefixOf_iff_prefix, List.prefix_iff_eq_take]
  exact eq_comm
theorem nh1 {W k : Nat} (hk : k < 7 - W) : k + W ≤ 6 := by omega
theorem nh2 (W k : Nat) : 7 - W - 1 - k = 6 - W - k := by omega
theorem nh3 {W i : Nat} (h : i + W ≤ 6) : i < 7 - W := by omega
theorem nh4 {W k : Nat} (h : k + W ≤ 6) : 6 - W - k + W = 6 - k := by omega
theorem nh5 {W k : Nat} (h : k + W ≤ 6) : k < 7 := by omega
theorem nh6 {W i : Nat} (h : i + W ≤ 6) : 6 - (6 - W - i) = W + i := by omega
theorem nh7 {k : Nat} (h : k < 7) : k - 1 < 6 := by omega
theorem nh8 {k : Nat} (h1 : 1 ≤ k) (h2 : k < 7) : 6 - 1 - (6 - k) = k - 1 := by omega
section
variable {tx : List Int} (ht : Txt tx)
include ht
theorem txt_rev : Txt tx.reverse := ⟨by rw [List.length_reverse, ht.len], fun x hx => ht.rng x (List.mem_reverse.mp hx)⟩
theorem pre_small {W : List Int} {i : Nat} (hi : i < 7) (h : W.isPrefixOf (tx.drop i) = true) : i + W.length ≤ 6 := by
  have h := congrArg List.length (pre_take.mp h)
  rw [List.length_take, List.length_drop, ht.len] at h
  omega
theorem pre_rev {W : List Int} {i : Nat} (hi : i + W.length ≤ 6) : W.isPrefixOf (tx.drop i) = W.reverse.isPrefixOf (tx.reverse.drop (6 - W.length - i)) := by
  have e : (tx.reverse.drop (6 - W.length - i)).take W.reverse.length = ((tx.drop i).take W.length).reverse := by
    rw [List.drop_reverse, ht.len, List.length_reverse, List.take_reverse, List.length_take, ht.len, nh6 hi, Nat.min_eq_left (Nat.add_comm i _ ▸ hi), Nat.add_sub_cancel_left, List.drop_take, Nat.add_sub_cancel]
  rw [Bool.eq_iff_iff, pre_take, pre_take, e, List.reverse_inj]
omit ht in
/-- places are counted from either end -/
theorem refl_map (m : Nat) : (List.range m).map (fun k => m - 1 - k) = (List.range m).reverse := by
  apply List.ext_getElem
  · simp
  · intro i h1 h2
    simp
omit ht in
theorem count_refl (m : Nat) (p : Nat → Bool) : (List.range m).countP (fun k => p (m - 1 - k)) = (List.range m).countP p := by
  have h := congrArg (List.countP p) (refl_map m)
  rw [List.countP_map, List.countP_reverse] at h
  exact h
omit ht in
theorem filter_cut {m n : Nat} {p : Nat → Bool} (hmn : m ≤ n) (h : ∀ k, k < n → p k = true → k < m) : (List.range n).filter p = (List.range m).filter p := by
  obtain ⟨d, rfl⟩ : ∃ d, n = m + d := ⟨n - m, by omega⟩
  rw [List.range_add, List.filter_append]
  have : ((List.range d).map (m + ·)).filter p = [] := by
    rw [List.filter_eq_nil_iff]
    intro a ha hp
    obtain ⟨k, hk, rfl⟩ := List.mem_map.mp ha
    have := List.mem_range.mp hk
    have := h (m + k) (by omega) hp
    omega
  rw [this, List.append_nil]
omit ht in
theorem count_cut {m n : Nat} {p : Nat → Bool} (hmn : m ≤ n) (h : ∀ k, k < n → p k = true → k < m) : (List.range n).countP p = (List.range m).countP p := by
  rw [List.countP_eq_length_filter, List.countP_eq_length_filter, filter_cut hmn h]
theorem ltr_rev {k : Nat} (h1 : 1 ≤ k) (h2 : k < 7) : ltr tx.reverse (6 - k + 1) = ltr tx k := by
  unfold ltr
  have e1 : 6 - k < tx.reverse.length := by rw [List.length_reverse, ht.len]; exact Nat.sub_lt (by decide) h1
  have e2 : k - 1 < tx.length := by rw [ht.len]; exact nh7 h2
  rw [if_neg (Nat.succ_ne_zero _), if_neg (Nat.ne_of_gt h1), Nat.add_sub_cancel, List.getD_eq_getElem?_getD, List.getD_eq_getElem?_getD, List.getElem?_eq_getElem e1, List.getElem?_eq_getElem e2, Option.getD_some, Option.getD_some, List.getElem_reverse]
  congr 1
  rw [ht.len]; exact nh8 h1 h2
/-- the letter ahead of a suffix stands behind it in the text turned about -/
theorem rest_lt {k c : Nat} (hk : k < 7) (hc : 1 ≤ c) : lexLt (tx.reverse.drop (6 - k)) [(c : Int)] = decide (ltr tx k < (c : Int)) := by
  by_cases h : k = 0
  · subst h
    rw [drop_six (txt_rev ht)]
    exact (decide_eq_true (by unfold ltr; rw [if_pos rfl]; omega)).symm
  · rw [drop_step (txt_rev ht) (by omega), ltr_rev ht (by omega) hk]
    simp only [lexLt]
    by_cases e : ltr tx k = c
    · rw [if_pos e, decide_eq_false (by omega)]
      cases tx.reverse.drop (6 - k + 1) <;> rfl
    · rw [if_neg e]
theorem lo_snoc {W : List Int} {c : Nat} (hW : W.length ≤ 6) (hc : 1 ≤ c) :
    loN tx.reverse (W.reverse ++ [(c : Int)]) = loN tx.reverse W.reverse + (List.range 7).countP fun j => decide (ltr tx j < (c : Int)) && W.isPrefixOf (tx.drop j) := by
  have h := countP_or (p := fun k => lexLt (tx.reverse.drop k) W.reverse) (q := fun k => W.reverse.isPrefixOf (tx.reverse.drop k) && lexLt (tx.reverse.drop k) (W.reverse ++ [(c : Int)])) (r := fun k => lexLt (tx.reverse.drop k) (W.reverse ++ [(c : Int)])) (l := List.range 7) (fun k _ => by
    rw [Bool.and_eq_true]
    constructor
    · constructor
      · intro h
        cases h2 : W.reverse.isPrefixOf (tx.reverse.drop k) with
        | true => exact .inr ⟨rfl, h⟩
        | false => exact .inl (snoc_lt h h2)
      · rintro (h | h)
        · exact lt_snoc h
        · exact h.2
    · rintro ⟨a, b, _⟩
      have := pre_not_lt b
      rw [a] at this; cases this)
  refine h.trans ?_
  show loN _ _ + _ = _
  congr 1
  rw [count_cut (m := 7 - W.length) (n := 7) (Nat.sub_le _ _) (fun k hk hp => by
    rw [Bool.and_eq_true] at hp
    have := pre_small (txt_rev ht) hk hp.1
    rw [List.length_reverse] at this
    exact nh3 this)]
  rw [count_cut (m := 7 - W.length) (n := 7) (p := fun j => decide (ltr tx j < (c : Int)) && W.isPrefixOf (tx.drop j)) (Nat.sub_le _ _) (fun k hk hp => by
    rw [Bool.and_eq_true] at hp
    have := pre_small ht hk hp.2
    exact nh3 this)]
  rw [← count_refl]
  refine countP_ext fun k hk => ?_
  have hk := nh1 (List.mem_range.mp hk)
  rw [nh2, ← pre_rev ht hk, Bool.and_comm]
  cases h2 : W.isPrefixOf (tx.drop k) with
  | false => rw [Bool.and_false, Bool.and_false]
  | true =>
    rw [Bool.and_true, Bool.and_true, ← rest_lt ht (nh5 hk) hc]
    rw [pre_rev ht hk] at h2
    have h3 := pre_take.mp h2
    have e : tx.reverse.drop (6 - W.length - k) = W.reverse ++ tx.reverse.drop (6 - k) := by
      conv => lhs; rw [← List.take_append_drop W.reverse.length (tx.reverse.drop (6 - W.length - k))]
      rw [h3, List.drop_drop, List.length_reverse, nh4 hk]
    rw [e, lex_app]
theorem wi_rev {W : List Int} (hW : W.length ≤ 6) : wiN tx.reverse W.reverse = wiN tx W := by
  unfold wiN
  rw [count_cut (m := 7 - W.length) (n := 7) (p := fun k => W.reverse.isPrefixOf (tx.reverse.drop k)) (Nat.sub_le _ _) (fun k hk hp => by
    have := pre_small (txt_rev ht) hk hp
    rw [List.length_reverse] at this
    exact nh3 this)]
  rw [count_cut (m := 7 - W.length) (n := 7) (p := fun k => W.isPrefixOf (tx.drop k)) (Nat.sub_le _ _) (fun k hk hp => by
    have := pre_small ht hk hp
    exact nh3 this)]
  rw [← count_refl]
  refine countP_ext fun k hk => ?_
  have hk := nh1 (List.mem_range.mp hk)
  rw [nh2, ← pre_rev ht hk]
/-! what the law asks -/
theorem rank_ok : RankOk tx := pm_rank ht
theorem rks_eq : rks tx 7 = (List.range 7).map fun i => ((rL tx i : Nat) : Int) := pm_rks ht
theorem laid_len : (laidL tx).length = 7 := pm_laid_len ht
theorem begs_ok : Begs (begL tx) := pm_begs ht
omit ht in
theorem nums_nil : Nums tx [] 0 0 7 := by
  have h : ∀ t : List Int, loN t [] = 0 := fun t => by
    unfold loN
    rw [List.countP_eq_zero]
    intro k _
    cases t.drop k <;> simp [lexLt]
  refine ⟨by rw [h]; rfl, by rw [List.reverse_nil, h]; rfl, ?_⟩
  unfold wiN
  rw [countP_ext (q := fun _ => true) (fun k _ => by simp)]
  rfl
theorem nums_grown {W : List Int} {low other width : Int} {c : Nat} (h : Nums tx W low other width) (hW : W.length ≤ 5) (h1 : 1 ≤ c) (h3 : c < 4) :
    Nums tx ((c : Int) :: W) (grA (laidL tx) (begL tx) low c) (other + grSum (laidL tx) (begL tx) low width c) (grW (laidL tx) (begL tx) low width c) := by
  obtain ⟨rfl, rfl, rfl⟩ := h
  refine ⟨lo_cons ht h1 h3, ?_, wi_cons ht h1 h3⟩
  rw [grSum_eq ht (by omega), List.reverse_cons, lo_snoc ht (by omega) h1]
  omega
theorem nums_left {W : List Int} {low other width c : Int} (h : Nums tx W low other width) (hW : W.length ≤ 5) (hc : 1 ≤ c ∧ c ≤ 3) :
    Nums tx (c :: W) (exA (laidL tx) (begL tx) (laidL tx.reverse) (begL tx.reverse) low other width c.toNat true) (exX (laidL tx) (begL tx) (laidL tx.reverse) (begL tx.reverse) low other width c.toNat true) (exW (laidL tx) (begL tx) (laidL tx.reverse) (begL tx.reverse) low other width c.toNat true) := by
  have := nums_grown ht h hW (c := c.toNat) (by omega) (by omega)
  rw [show ((c.toNat : Nat) : Int) = c by omega] at this
  exact this
theorem nums_right {W : List Int} {low other width c : Int} (h : Nums tx W low other width) (hW : W.length ≤ 5) (hc : 1 ≤ c ∧ c ≤ 3) :
    Nums tx (W ++ [c]) (exA (laidL tx) (begL tx) (laidL tx.reverse) (begL tx.reverse) low other width c.toNat false) (exX (laidL tx) (begL tx) (laidL tx.reverse) (begL tx.reverse) low other width c.toNat false) (exW (laidL tx) (begL tx) (laidL tx.reverse) (begL tx.reverse) low other width c.toNat false) := by
  have h' : Nums tx.reverse W.reverse other low width := ⟨h.other, by rw [List.reverse_reverse, List.reverse_reverse]; exact h.low, by rw [wi_rev ht (by omega)]; exact h.width⟩
  have := nums_grown (txt_rev ht) h' (by rw [List.length_reverse]; exact hW) (c := c.toNat) (by omega) (by omega)
  rw [show ((c.toNat : Nat) : Int) = c by omega] at this
  have e : c :: W.reverse = (W ++ [c]).reverse := by rw [List.reverse_append]; rfl
  refine ⟨?_, ?_, ?_⟩
  · have h2 := this.other
    rw [List.reverse_reverse, e, List.reverse_reverse] at h2
    exact h2
  · have h2 := this.low
    rw [e] at h2
    exact h2
  · have h2 := this.width
    rw [e, wi_rev ht (by simp; omega)] at h2
    exact h2
theorem rank_q {W : List Int} {low width : Int} (h1 : low = loN tx W) (h2 : width = wiN tx W) {j : Nat} (hj : j < 7) : rankQ (rks tx 7) low width j = W.isPrefixOf (tx.drop j) := by
  subst h1 h2
  unfold rankQ
  have e : (rks tx 7).getD j 0 = ((rL tx j : Nat) : Int) := by
    rw [rks_eq ht, List.getD_eq_getElem?_getD, List.getElem?_map, List.getElem?_range hj, Option.map_some, Option.getD_some]
  rw [e]
  have h := rank_in (tx := tx) (W := W) hj
  cases h2 : W.isPrefixOf (tx.drop j) with
  | true => exact decide_eq_true (by have := h.mpr h2; omega)
  | false => exact decide_eq_false fun h3 => by have := h.mp (by omega); rw [h2] at this; cases this
theorem holds_ok {W : List Int} {low other width : Int} (h : Nums tx W low other width) (h6 : W.length ≤ 6) :
    (decide (pick (fun j => (j : Int)) (rankQ (rks tx 7) low width) 7 = pick (fun j => (j : Int)) (spotQ tx W) (7 - W.length)) && decide ((pick (fun j => 6 - (W.length : Int) - j) (rankQ (rks tx.reverse 7) other width) 7).reverse = pick (fun j => (j : Int)) (spotQ tx W) (7 - W.length))) = true := by
  have hs : ∀ j, spotQ tx W j = W.isPrefixOf (tx.drop j) := fun j => by
    unfold spotQ cutAt
    rw [Bool.eq_iff_iff, pre_take, decide_eq_true_iff]
  have e0 : (List.range (7 - W.length)).filter (spotQ tx W) = (List.range (7 - W.length)).filter fun j => W.isPrefixOf (tx.drop j) := List.filter_congr fun j _ => hs j
  have e1 : (List.range 7).filter (rankQ (rks tx 7) low width) = (List.range (7 - W.length)).filter fun j => W.isPrefixOf (tx.drop j) := by
    rw [List.filter_congr (q := fun j => W.isPrefixOf (tx.drop j)) fun j hj => rank_q ht h.low h.width (List.mem_range.mp hj)]
    exact filter_cut (by omega) fun k hk hp => by have := pre_small ht hk hp; omega
  have e2 : (List.range 7).filter (rankQ (rks tx.reverse 7) other width) = (List.range (7 - W.length)).filter fun j => W.reverse.isPrefixOf (tx.reverse.drop j) := by
    rw [List.filter_congr (q := fun j => W.reverse.isPrefixOf (tx.reverse.drop j)) fun j hj => rank_q (txt_rev ht) h.other (by rw [wi_rev ht h6]; exact h.width) (List.mem_range.mp hj)]
    exact filter_cut (by omega) fun k hk hp => by
      have := pre_small (txt_rev ht) hk hp
      rw [List.length_reverse] at this
      omega
  unfold pick
  rw [e0, e1, e2, decide_eq_true rfl, Bool.true_and, decide_eq_true_iff]
  rw [← List.map_reverse, ← List.filter_reverse, ← refl_map, List.filter_map, List.map_map]
  have e3 : (List.range (7 - W.length)).filter ((fun j => W.reverse.isPrefixOf (tx.reverse.drop j)) ∘ fun k => 7 - W.length - 1 - k) = (List.range (7 - W.length)).filter fun j => W.isPrefixOf (tx.drop j) := List.filter_congr fun k hk => by
    have hk := List.mem_range.mp hk
    rw [Function.comp_apply, nh2, ← pre_rev ht (by omega)]
  rw [e3]
  refine List.map_congr_left fun k hk => ?_
  have hk := List.mem_range.mp (List.mem_filter.mp hk).1
  rw [Function.comp_apply]
  omega
end
/-! U1 -/
section
variable {prog : Program} {w : World} {A : Around} {E : Value → Shared → Prop} {s : Shared}
theorem nextOf_tuple_item {it t : Addr} {i : Nat} {items : Array Value} {x : Value} {Q : Value → Shared → Prop} (hit : s.heap.IsTupleIter it t i) (ht : s.heap.IsTuple t items) (hx : items[i]? = some x)
    (hQ : ∀ h', h'.IsTupleIter it t (i + 1) → Heap.SameBut it s.heap h' → Q x { s with heap := h' }) : wpAny (model prog w) A (Builtin.SmallTypes.nextOf (.ref it)) Q E s := by
  obtain ⟨o, ho, hc, hd⟩ := id hit
  obtain ⟨ol, hol, _, nl, hdl⟩ := ht
  unfold Builtin.SmallTypes.nextOf
  refine wpAny_bind (wpAny_callSpecial?_slot (name := Str.ofString "__next__") hit.typeIs F.slot_tuple_iterator_next
    (wpAny_call_entry F.slot_tuple_iterator_next hit.typeIs F.entry_tuple_iterator_next ?_ (F.args_tuple_iterator_next_1 _)))
  show wpAny _ _ (field (.ref it) 0 >>= _) _ _ s
  refine wpAny_bind (wpAny_field ho hd (x := .ref t) rfl ?_)
  show wpAny _ _ (if (Value.ref t == Value.none) = true then _ else _) _ _ s
  rw [if_neg (show ¬ ((Value.ref t == Value.none) = true) from Bool.false_ne_true)]
  show wpAny _ _ (field (.ref it) 1 >>= _) _ _ s
  refine wpAny_bind (wpAny_field ho hd (x := .int i 0) rfl ?_)
  show wpAny _ _ (seqItems? (.ref t) >>= _) _ _ s
  refine wpAny_bind (wpAny_seqItems hol hdl ?_)
  simp only [Int.toNat_natCast, hx]
  refine wpAny_bind (wpAny_setField ho hd (by simp) (wpAny_pure ⟨_, rfl, wpAny_pure (hQ _ ?_ (Heap.SameBut.update ..))⟩))
  exact ⟨_, Heap.get?_update_self _ ho (Obj.isFreed_of_fields (Obj.data_mapFields hd _)), (Obj.cls_mapFields ..).trans hc, by
    rw [Obj.data_mapFields hd]; simp [rawInt]⟩
theorem nextOf_tuple_end {it t : Addr} {i : Nat} {items : Array Value} {Q : Value → Shared → Prop} (hh : A.handled = none) (hit : s.heap.IsTupleIter it t i) (ht : s.heap.IsTuple t items) (hx : items[i]? = none)
    (hE : ∀ h' e, Heap.ExtBut it s.heap h' → (∃ o, h'.get? e = some o ∧ o.cls = .type "StopIteration") → E (.ref e) { s with heap := h' }) : wpAny (model prog w) A (Builtin.SmallTypes.nextOf (.ref it)) Q E s := by
  obtain ⟨o, ho, hc, hd⟩ := id hit
  obtain ⟨ol, hol, _, nl, hdl⟩ := ht
  unfold Builtin.SmallTypes.nextOf
  refine wpAny_bind (wpAny_callSpecial?_slot (name := Str.ofString "__next__") hit.typeIs F.slot_tuple_iterator_next
    (wpAny_call_entry F.slot_tuple_iterator_next hit.typeIs F.entry_tuple_iterator_next ?_ (F.args_tuple_iterator_next_1 _)))
  show wpAny _ _ (field (.ref it) 0 >>= _) _ _ s
  refine wpAny_bind (wpAny_field ho hd (x := .ref t) rfl ?_)
  show wpAny _ _ (if (Value.ref t == Value.none) = true then _ else _) _ _ s
  rw [if_neg (show ¬ ((Value.ref t == Value.none) = true) from Bool.false_ne_true)]
  show wpAny _ _ (field (.ref it) 1 >>= _) _ _ s
  refine wpAny_bind (wpAny_field ho hd (x := .int i 0) rfl ?_)
  show wpAny _ _ (seqItems? (.ref t) >>= _) _ _ s
  refine wpAny_bind (wpAny_seqItems hol hdl ?_)
  simp only [Int.toNat_natCast, hx]
  refine wpAny_bind (wpAny_rule (wpAny_bind (wpAny_setField ho hd (by simp) ?_)))
  show wpAny _ _ (newExc (.type "StopIteration") [] >>= _) _ _ _
  refine wpAny_bind ?_
  simp only [newExc, newTuple]
  refine wpAny_bind (wpAny_newObj_type ?_ (by size_fits))
  refine wpAny_bind (m := firstArgMember _ _) (wpAny_of_eq (a := Value.none) (by first | rfl | (simp only [firstArgMember]; rfl)) ?_)
  refine wpAny_newObj_type ?_ (by size_fits)
  simp only [raiseNew]
  refine wpAny_bind (wpAny_handled ?_)
  first | rw [show A.in1.handled = none from hh] | rw [hh]
  refine wpAny_bind (wpAny_pure (wpAny_throw ?_))
  exact hE _ _ (((Heap.SameBut.update ..).extBut.push _).push _) ⟨_, Heap.get?_push_size _ rfl, rfl⟩
end
theorem draws_tuple {prog : Program} {w : World} {A : Around} (hh : A.handled = none) (it l : Addr) (hne : l ≠ it) (items : Array Value) :
    Draws prog w A it [it, l] items.size (fun i v => items[i]? = some v) (fun i h => h.IsTupleIter it l i ∧ h.IsTuple l items) where
  live := fun _ _ st => let ⟨o, ho, _⟩ := st.1; ⟨o, ho⟩
  frame := fun _ _ _ st hk => ⟨st.1.at fun o e => hk it (by simp) o e, st.2.at fun o e => hk l (by simp) o e⟩
  item := fun i s Q E hi st hQ => by
    refine nextOf_tuple_item st.1 st.2 (x := items[i]) (by simp [hi]) fun h' hit' hs' => ?_
    exact hQ _ h' s.toks (by simp [hi]) ⟨hit', st.2.extBut hs'.extBut hne⟩ hs'
  done := fun s Q E st hQ => nextOf_tuple_end hh st.1 st.2 (by simp) hQ
theorem meets_enum_tuple (l : Addr) (items : Array Value) (n : Nat) (dct : Option Addr) (sl : Array (Option Value)) :
    Meets (Builtin.«enumerate.__new__» ⟨[.type "enumerate", .ref l], []⟩) (fun _ R s => s.heap.get? l = some { cls := .type "tuple", dict := dct, data := .seq items n, slots := sl } ∧
      R (.ok (.ret (.ref (s.heap.push { cls := .type "tuple_iterator", data := .fields #[.ref l, .int 0 0] }).objs.size)))
        { s with heap := (s.heap.push { cls := .type "tuple_iterator", data := .fields #[.ref l, .int 0 0] }).push { cls := .type "enumerate", data := .fields #[.none, .bool false, .ref s.heap.objs.size, rawInt 0, .none, .none] } }) :=
  .of_wp fun prog w A R s h => by
    obtain ⟨hp, g, d, tk, os⟩ := s; obtain ⟨hl, h⟩ := h
    have hsub := sub_enumerate
    have hL : Heap.IsTuple (Shared.heap ⟨hp, g, d, tk, os⟩) l items := ⟨_, hl, rfl, n, rfl⟩
    wp_walk using wpAny_loadPart' hl
    refine wpAny_stack_any fun st => wpAny_pure ?_
    split
    · rename_i c _ _ _ _ _
      cases (c == Value.type "enumerate")
      · wp_walk using wpAny_loadPart' hl, wpAny_pyIter_tuple hL
        exact ⟨_, rfl, h⟩
      · wp_walk using wpAny_loadPart' hl, wpAny_pyIter_tuple hL
        exact ⟨_, rfl, h⟩
    · wp_walk using wpAny_loadPart' hl, wpAny_pyIter_tuple hL
      exact ⟨_, rfl, h⟩
section
variable {prog : Program} {w : World} {A : Around} {E : Value → Shared → Prop} {s : Shared}
theorem call_enum_tuple {l : Addr} {items : Array Value} {Q : Value → Shared → Prop} (hL : s.heap.IsTuple l items)
    (h : ∀ h', IsEnum h' (s.heap.objs.size + 1) s.heap.objs.size 0 .none → h'.IsTupleIter s.heap.objs.size l 0 → h'.objs.size = s.heap.objs.size + 2 →
      (∀ b o, s.heap.get? b = some o → h'.get? b = some o) → Q (.ref (s.heap.objs.size + 1)) { s with heap := h' }) :
    wpAny (model prog w) A (call (.type "enumerate") [.ref l]) Q E s := by
  obtain ⟨⟨c, dct, dt, sl⟩, hl, hc, n, hd⟩ := hL
  replace hc : c = .type "tuple" := hc
  replace hd : dt = .seq items n := hd
  subst hc hd
  refine callType_new F.called_enumerate (by decide) (F.typeCall_enumerate_1 _) (F.newCall_enumerate_1 _) (fun obj => F.args_object_init_2 obj _) F.entry_enumerate_new
    (meets_enum_tuple l items n dct sl) ⟨hl, ?_⟩
  have hz : (s.heap.push { cls := .type "tuple_iterator", data := .fields #[.ref l, .int 0 0] }).objs.size = s.heap.objs.size + 1 := Heap.size_push ..
  show _ ∧ _
  rw [hz]
  have he : IsEnum ((s.heap.push { cls := .type "tuple_iterator", data := .fields #[.ref l, .int 0 0] }).push
      { cls := .type "enumerate", data := .fields #[.none, .bool false, .ref s.heap.objs.size, rawInt 0, .none, .none] }) (s.heap.objs.size + 1) s.heap.objs.size 0 .none := by
    have := Heap.get?_push_size (s.heap.push { cls := .type "tuple_iterator", data := .fields #[.ref l, .int 0 0] })
      (o := { cls := .type "enumerate", data := .fields #[.none, .bool false, .ref s.heap.objs.size, rawInt 0, .none, .none] }) rfl
    rw [hz] at this; exact this
  refine ⟨⟨_, he, rfl⟩, h _ he ⟨_, Heap.get?_push_of_some _ (Heap.get?_push_size _ rfl), rfl, rfl⟩ (by rw [Heap.size_push, hz]) fun b o x => Heap.get?_push_of_some _ (Heap.get?_push_of_some _ x)⟩
end
section
variable {prog : Program} {w : World} {A : Around} {E : Value → Shared → Prop} {s : Shared} {h₀ : Heap} {L : Addr} {m : Str → Option Value} {env : Env}
/-- the source enumerate(a tuple of the ledger) -/
theorem comp_enumT2 {elts : List Expr} {k} {tp : Pos} {elt : Expr} {ifs : List Expr} {scope : Scope} {cl : List (Str × Addr)} (O : Own scope) {Fin : Shared → List Value → Led → Led → Prop} {l : Addr} {vs : List Value} {c : Nat} {news : Led} {σ : Type} (Ld : σ → Led) (c₀ : σ) (Done : Nat → σ → List Value → Prop) {Bd : Nat → Addr → Led → Prop}
    (hh : A.handled = none) (F : Fr h₀ L s.heap m) (N : News h₀ L s.heap news) (hm : (l, tupO vs c) ∈ news) (hkp : ∀ i c' ys, Done i c' ys → (l, tupO vs c) ∈ Ld c') (hsz : vs.length ≤ sizeLine) (hn : news = Ld c₀)
    (asg : AsgOk prog w A env (.Tuple elts k tp) scope cl O vs.length (fun i v h => ∃ T vals, v = .ref T ∧ (∃ t x, vs[i]? = some x ∧ vals = #[.int (i : Nat) t, x]) ∧ IsTup h T vals) Bd) (h0 : Done 0 c₀ [])
    (turn : ∀ (s₂ : Shared) I, (∀ p ∈ news, p.1 < I) → (∃ h tk, s₂ = { s with heap := h, toks := tk }) → CTurn2 prog w A h₀ L m env ifs elt scope cl s₂ [(I + 1, "enumerate"), (I, "tuple_iterator")] vs.length O.oaf Ld Done Bd)
    (fin : ∀ c ys h tk, Done vs.length c ys → Fin { s with heap := h, toks := tk } ys news (Ld c)) :
    wpAny (model prog w) A (call (.type "enumerate") [.ref l]) (fun xv s₁ => wpAny (model prog w) A (pyIter xv) (CompAt2 prog w A h₀ L m env (.Tuple elts k tp) ifs elt scope cl O Fin) E s₁) E s := by
  subst hn
  have hax := N _ hm
  have hl : s.heap.IsTuple l vs.toArray := ⟨_, hax.1, rfl, c, rfl⟩
  have hlt : l < s.heap.objs.size := Heap.lt_size hax.1
  have hLs : L < s.heap.objs.size := F.ns.lt
  refine call_enum_tuple hl fun h' hE hI hsz' hk => ?_
  refine wpAny_pyIter_enum hE ?_
  have W := WalksT.enumerateD (draws_tuple (prog := prog) (w := w) (A := A.in1) hh s.heap.objs.size l (Nat.ne_of_lt hlt) vs.toArray) (s.heap.objs.size + 1) (Nat.succ_ne_self _)
    (fun hm => by
      rcases List.mem_cons.mp hm with e | hm
      · exact Nat.succ_ne_self _ e
      · exact Nat.ne_of_gt (Nat.lt_succ_of_lt hlt) (List.mem_singleton.mp hm)) (by simp)
  have hn : vs.toArray.size = vs.length := by simp
  rw [hn] at W
  have KT : KTurns prog w A (.Tuple elts k tp) (s.heap.objs.size + 1) _ _ vs.length _ _ _ := KTurns.ofWalksU W.toU
  refine ⟨σ, _, _, _, _, _, _, _, [(s.heap.objs.size + 1, "enumerate"), (s.heap.objs.size, "tuple_iterator")], Ld, [(l, tupO vs c)], c₀, Done, Bd, rfl, KT, fun s Q E st q => W.self 0 s Q E st q, hsz, ?_, ?_, ?_, ?_, (fun i c' ys hd p hp => by rw [List.mem_singleton.mp hp]; exact hkp i c' ys hd), ?_, ?_, ?_, F.keeps hk, N.grown hk, ?_, h0, turn _ _ (fun p hp => Heap.lt_size (N p hp).1) ⟨_, _, rfl⟩, fun c ys hd => fin c ys _ _ hd⟩
  · rintro i h ⟨⟨old, he⟩, ⟨oi, hoi, hic, _⟩, _⟩
    have he' : ∃ oe : Obj, h.get? (s.heap.objs.size + 1) = some oe ∧ oe.cls = .type "enumerate" := ⟨_, he, rfl⟩
    obtain ⟨oe, h1, h2⟩ := he'
    refine ⟨[(s.heap.objs.size + 1, oe), (s.heap.objs.size, oi)], ⟨⟨rfl, h2⟩, ⟨rfl, hic⟩, trivial⟩, fun p hp => ?_⟩
    rcases List.mem_cons.mp hp with rfl | hp
    · exact h1
    · rw [List.mem_singleton.mp hp]; exact hoi
  · intro b hb
    have hb' : b = s.heap.objs.size + 1 ∨ b = s.heap.objs.size := by simpa using hb
    rcases hb' with rfl | rfl
    · exact ⟨by simp, ktu_new F (Nat.le_add_right _ _), Nat.ne_of_gt (Nat.lt_succ_of_lt hLs)⟩
    · exact ⟨by simp, ktu_new F (Nat.le_refl _), Nat.ne_of_gt hLs⟩
  · intro b hb
    simpa using hb
  · intro b hb
    have hb' : b = s.heap.objs.size + 1 ∨ b = s.heap.objs.size ∨ b = l := by simpa using hb
    rcases hb' with rfl | rfl | rfl
    · exact .inl (by simp)
    · exact .inl (by simp)
    · exact .inr (.inl ⟨_, .head _⟩)
  · intro p hp hI'
    have hb' : p.1 = s.heap.objs.size + 1 ∨ p.1 = s.heap.objs.size := by simpa using hI'
    have hlp := Heap.lt_size (N p hp).1
    rcases hb' with e | e
    · exact ktu_ne 1 hlp e
    · exact Nat.ne_of_lt hlp e
  · exact ⟨⟨.none, hE⟩, hI, hl.at fun o e => hk l o e⟩
  · intro b hb
    have hb' : b = s.heap.objs.size + 1 ∨ b = s.heap.objs.size ∨ b = l := by simpa using hb
    have hz : s.heap.objs.size + 2 ≤ h'.objs.size := by
      have h1 := Heap.lt_size hE
      exact h1
    rcases hb' with rfl | rfl | rfl
    · exact hz
    · exact Nat.lt_of_succ_lt hz
    · exact Nat.lt_trans hlt (Nat.lt_of_succ_lt hz)
  · rintro i v h tk C own Q E' hi ⟨T, vals, rfl, ⟨t, x, hx, hv⟩, hT⟩ hO ho hq
    exact asg { s with heap := h, toks := tk } i _ h tk C own Q E' hi ⟨T, vals, rfl, ⟨t, x, by simpa using hx, hv⟩, hT⟩ hO ho fun h' tk' own' a b c d => hq h' tk' own' a b c d
end
theorem ints_some : ∀ {ws : List Value}, (∀ v ∈ ws, ∃ z t, v = Value.int z t) → ∃ ms, IntsAre ws ms
  | [], _ => ⟨[], .nil⟩
  | v :: ws, h => by
    obtain ⟨z, t, rfl⟩ := h v (.head _)
    obtain ⟨ms, hm⟩ := ints_some (ws := ws) fun v hv => h v (.tail _ hv)
    exact ⟨z :: ms, .cons _ _ hm⟩
theorem ints_each {vs : List Value} {ns : List Int} (h : IntsAre vs ns) : ∀ v ∈ vs, ∃ z t, v = Value.int z t := by
  intro v hv
  obtain ⟨i, hi⟩ := List.getElem?_of_mem hv
  obtain ⟨t, rfl⟩ := IntsAre.int_at h _ _ hi
  exact ⟨_, _, rfl⟩
section
variable {prog : Program} {w : World} {A : Around} {E : Value → Shared → Prop} {s : Shared} {h₀ : Heap} {L l : Addr} {m : Str → Option Value} {news : Led} {value slice : PySem.Expr} {vs : List Value} {ns : List Int} {c : Nat} {vl vk : Value} {lo st : Option Int} {ops : List Value} {Q : Value → Shared → Prop}
/-- a stepped slice of a list of ints -/
theorem stp_led (F : Fr h₀ L s.heap m) (N : News h₀ L s.heap news) (hm : (l, PySem.W.listOf vs.toArray c) ∈ news) (pl : IsPart vl lo) (pk : IsPart vk st) (h0 : st ≠ some 0) (hi : IntsAre vs ns) (hz : vs.length ≤ 1000)
    (h : ∀ D ws ms h', Fr h₀ L h' m → News h₀ L h' ((D, PySem.W.listOf (List.toArray ws) 0) :: news) → (∀ p ∈ news, p.1 < D) → IntsAre ws ms → Q (.ref D) { s with heap := h' })
    (hs : subscripted slice false (.ref l) (.ref s.heap.objs.size) = operate ops (getItem (.ref l) (.ref s.heap.objs.size))) (ht : ∀ r, letTemporaryGo value (.ref l) r = pure ()) :
    wpAny (model prog w) A (subscriptTail value slice (.ref l) (.ref s.heap.objs.size)) Q E { s with heap := s.heap.push { cls := .type "slice", data := .fields #[vl, .none, vk] } } := by
  have hw : ∀ v ∈ (slicePick vs.toArray lo none st).toList, ∃ z t, v = Value.int z t := by
    intro v hv
    unfold slicePick at hv
    simp only [List.mem_filterMap] at hv
    obtain ⟨i, _, hi'⟩ := hv
    exact ints_each hi v (List.mem_of_getElem? (by simpa using hi'))
  obtain ⟨ms, hms⟩ := ints_some hw
  refine slice_list3 F N (News.isList N hm) pl .none pk h0 (fun h' F' N' => h _ (slicePick vs.toArray lo none st).toList ms h' F' ?_ (fun p hp => Nat.lt_succ_of_lt (Heap.lt_size (N p hp).1)) hms) hs ht (by rw [List.size_toArray, sizeLine_eq]; omega)
  rw [Array.toArray_toList]
  exact N'
end
theorem words_U11 : True := by
  k_with "my:subscriptTail Name Slice ref ref" => ((k_here; (with_reducible show wpAny _ _ (subscriptTail _ (PySem.Expr.Slice (some _) none (some _) _) (Value.ref _) (Value.ref _)) _ _ _); k_dflt (refine' stp_led ?Fₓ ?Nₓ ?lₓ ?pₓ ?kₓ ?oₓ ?iₓ ?zₓ ?_ ?sₓ ?tₓ; (case Fₓ => k_asm); (case Nₓ => k_asm); (case lₓ => k_mem); (case pₓ => exact IsPart.int _ _); (case kₓ => exact IsPart.int _ _); (case oₓ => decide); (case iₓ => assumption); (case zₓ => omega); (case sₓ => with_unfolding_all rfl); (case tₓ => kmk_pure)); intro Dₓ wsₓ msₓ hₓ Fₓ Nₓ l1ₓ hIₓ; (try k_lt l1ₓ)))
  trivial
section
variable {prog : Program} {w : World} {A : Around} {E : Value → Shared → Prop} {s : Shared} {h₀ : Heap} {L : Addr} {m : Str → Option Value} {env : Env}
/-- the source a tuple of the ledger -/
theorem comp_tup2 {target elt : Expr} {ifs : List Expr} {scope : Scope} {cl : List (Str × Addr)} (O : Own scope) {Fin : Shared → List Value → Led → Led → Prop} {l : Addr} {vs : List Value} {c : Nat} {news : Led} {σ : Type} (Ld : σ → Led) (c₀ : σ) (Done : Nat → σ → List Value → Prop) {Bd : Nat → Addr → Led → Prop}
    (hh : A.handled = none) (F : Fr h₀ L s.heap m) (N : News h₀ L s.heap news) (hm : (l, tupO vs c) ∈ news) (hkp : ∀ i c' ys, Done i c' ys → (l, tupO vs c) ∈ Ld c') (hsz : vs.length ≤ sizeLine) (hn : news = Ld c₀)
    (hgo : ∀ it v, letOwnedTupleGo target it v = pure ()) (asg : AsgOk prog w A env target scope cl O vs.length (fun i v _ => vs[i]? = some v) Bd) (h0 : Done 0 c₀ [])
    (turn : ∀ (s₂ : Shared) I, (∀ p ∈ news, p.1 < I) → (∃ h tk, s₂ = { s with heap := h, toks := tk }) → CTurn2 prog w A h₀ L m env ifs elt scope cl s₂ [(I, "tuple_iterator")] vs.length O.oaf Ld Done Bd)
    (fin : ∀ c ys h tk, Done vs.length c ys → Fin { s with heap := h, toks := tk } ys news (Ld c)) :
    wpAny (model prog w) A (pyIter (.ref l)) (CompAt2 prog w A h₀ L m env target ifs elt scope cl O Fin) E s := by
  subst hn
  have hax := N _ hm
  have hl : s.heap.IsTuple l vs.toArray := ⟨_, hax.1, rfl, c, rfl⟩
  have hlt : l < s.heap.objs.size := Heap.lt_size hax.1
  have hLs : L < s.heap.objs.size := F.ns.lt
  have hne : l ≠ s.heap.objs.size := Nat.ne_of_lt hlt
  refine wpAny_pyIter_tuple hl ?_
  have W := Walks.tuple (prog := prog) (w := w) hh s.heap.objs.size l hne vs.toArray
  have hn : vs.toArray.size = vs.length := by simp
  rw [hn] at W
  have KT : KTurns prog w A target s.heap.objs.size _ _ vs.length _ _ _ := KTurns.ofWalks W fun i v s Q E _ q => wpAny_of_eq (hgo _ _) q
  refine ⟨σ, _, _, _, _, _, _, _, [(s.heap.objs.size, "tuple_iterator")], Ld, [(l, tupO vs c)], c₀, Done, Bd, rfl, KT, fun s Q E st q => W.self 0 s Q E st q, hsz, ?_, ?_, ?_, ?_, (fun i c' ys hd p hp => by rw [List.mem_singleton.mp hp]; exact hkp i c' ys hd), ?_, ?_, ?_, F.keeps fun _ _ e => Heap.get?_push_of_some _ e, N.grown fun _ _ e => Heap.get?_push_of_some _ e,
    fun i v h tk C own Q E' hi hP hO ho hq => asg { s with heap := h, toks := tk } i v h tk C own Q E' hi (by simpa using hP) hO ho fun h' tk' own' a b c d => hq h' tk' own' a b c d, h0, turn _ _ (fun p hp => Heap.lt_size (N p hp).1) ⟨_, _, rfl⟩, fun c ys hd => fin c ys _ _ hd⟩
  · intro i h st
    obtain ⟨it, hit, hic, _⟩ := st.1
    exact ⟨[(s.heap.objs.size, it)], ⟨⟨rfl, hic⟩, trivial⟩, fun p hp => by rw [List.mem_singleton.mp hp]; exact hit⟩
  · intro b hb
    have hb' : b = s.heap.objs.size := by simpa using hb
    rw [hb']
    exact ⟨by simp, ktu_new F (Nat.le_refl _), Nat.ne_of_gt hLs⟩
  · intro b hb
    simpa using hb
  · intro b hb
    have hb' : b = s.heap.objs.size ∨ b = l := by simpa using hb
    rcases hb' with e | e
    · exact .inl (by simp [e])
    · exact .inr (.inl ⟨_, by rw [e]; exact .head _⟩)
  · intro p hp hI'
    have hb' : p.1 = s.heap.objs.size := by simpa using hI'
    exact Nat.ne_of_lt (Heap.lt_size (N p hp).1) hb'
  · exact ⟨⟨_, Heap.get?_push_size _ rfl, rfl, rfl⟩, hl.at fun o e => Heap.get?_push_of_some _ e⟩
  · intro b hb
    have hb' : b = s.heap.objs.size ∨ b = l := by simpa using hb
    show b < (s.heap.push _).objs.size
    rw [Heap.size_push]
    rcases hb' with e | e
    · rw [e]; exact Nat.lt_succ_self _
    · rw [e]; exact Nat.lt_succ_of_lt hlt
end
theorem words_W : True := by
  k_with "my:pyIter ref" => (((with_reducible show wpAny _ _ (pyIter (Value.ref _)) (fun it s₂ => LoopAtV _ _ _ _ _ _ _ _ _ it s₂) _ _); (rename Fr _ _ _ _ => lFₓ); (rename News _ _ _ _ => lNₓ); (rename IsRange _ _ _ _ _ _ _ _ => lRₓ); (with_unfolding_all refine iter_rangeW (by rfl) lRₓ (by rfl) (by first | decide | omega) lFₓ lNₓ ?_); clear lFₓ lNₓ))
  k_with "my:call type:bytes" => ((k_here; (with_reducible show wpAny _ _ (call (Value.type "bytes") [Value.ref _]) _ _ _); k_dflt (refine' call_bytes_baN ?Nₓ ?mₓ ?zₓ ?_; (case Nₓ => k_asm); (case mₓ => k_mem); (case zₓ => exact Nat.le_of_ble_eq_true rfl)); intro _ _))
  trivial
/-! LW -/
section
variable {prog : Program} {w : World} {A : Around} {R : Result → Shared → Prop} {s : Shared}
theorem codeC_call_cells {a : Addr} {o : Obj} {fd : FuncData} {body : List Stmt} {vals : List Value} {binds : List (Str × Value)}
    (hroom : A.depth < recursionLimit) (ho : s.heap.get? a = some o) (hdata : o.data = .func fd) (hlim : s.heap.NoLimit) (hcd : s.heap.CodeRec fd.code fd.qualname)
    (hbody : fd.body = .stmts body) (hbind : bindArgs fd ⟨vals, []⟩ = pure binds) (hclo : fd.closure = [])
    (hkind : ∀ x ∈ binds, fd.scope.names.lookup x.1 = some .local ∨ (fd.scope.names.lookup x.1 = some .cell ∧ ((cellsFrom (s.heap.objs.size + 1) fd.scope.names []).lookup x.1).isSome = true))
    (h : ∀ s₁, InCallC s (callEnvC fd s.heap.objs.size a).locals (bindL (callEnvC fd s.heap.objs.size a).kindOf binds fun _ => none) (callEnvC fd s.heap.objs.size a).cells
        (bindC (callEnvC fd s.heap.objs.size a).kindOf binds fun _ => none) s₁ →
      wpC (model prog w) (A.deeper (callEnvC fd s.heap.objs.size a)) (execs body (callEnvC fd s.heap.objs.size a)) (fun f s' => R (.ok (.ret (match f with | .ret v => v | _ => .none))) s')
        (fun e s' => wpAny (model prog w) (A.deeper (callEnvC fd s.heap.objs.size a)) (leaving (callEnvC fd s.heap.objs.size a) e) (fun _ s'' => R (.error e) s'') (fun e' s'' => R (.error e') s'') s') s₁)
    (hco : fd.scope.isCoroutine = false := by rfl) (hgen : fd.scope.isGenerator = false := by rfl) (hk : fd.scope.kind = .function := by rfl) :
    codeC (model prog w) A (.call (.ref a) ⟨vals, []⟩) R s := by
  refine codeC_call_function hroom ho hdata hco hgen hbody hcd ?_
  rw [hbind, hclo]
  refine wpAny_pure (wpAny_newFunctionEnv_cells hk hkind fun env he s' x => ?_)
  subst he
  exact ⟨hlim.keeps x.toInCall.keep, codeC_func (h s' x)⟩
theorem codeC_cellsN {name : Str} {params : Arguments} {body : List Stmt} {scope : Scope} {pm cd doc : Value} {a : Addr} {o : Obj} {args : List Value} {binds : List (Str × Value)}
    (hroom : A.depth < recursionLimit) (ho : s.heap.get? a = some o) (hdata : o.data = .func (Calls.docDef name params body scope pm cd doc)) (hlim : s.heap.NoLimit) (hcd : s.heap.CodeRec cd name)
    (hbind : bindArgs (Calls.docDef name params body scope pm cd doc) ⟨args, []⟩ = pure binds)
    (hkind : ∀ x ∈ binds, scope.names.lookup x.1 = some .local ∨ (scope.names.lookup x.1 = some .cell ∧ ((cellsFrom (s.heap.objs.size + 1) scope.names []).lookup x.1).isSome = true))
    (hnd : ((cellsFrom 0 scope.names []).map (·.1)).Nodup)
    (h : ∀ h₁ tk cells, Fr s.heap s.heap.objs.size h₁ (bindL (envOfC name scope s.heap.objs.size a cd).kindOf binds fun _ => none) → News s.heap s.heap.objs.size h₁ cells →
      CellsAre (bindC (envOfC name scope s.heap.objs.size a cd).kindOf binds fun _ => none) (cellsFrom (s.heap.objs.size + 1) scope.names []) cells →
      wpC (model prog w) (A.deeper (envOfC name scope s.heap.objs.size a cd)) (execs body (envOfC name scope s.heap.objs.size a cd))
        (fun f s' => R (.ok (.ret (match f with | .ret v => v | _ => .none))) s')
        (fun e s' => wpAny (model prog w) (A.deeper (envOfC name scope s.heap.objs.size a cd)) (leaving (envOfC name scope s.heap.objs.size a cd) e)
          (fun _ s'' => R (.error e) s'') (fun e' s'' => R (.error e') s'') s')
        { s with heap := h₁, toks := tk })
    (hco : scope.isCoroutine = false := by rfl) (hgen : scope.isGenerator = false := by rfl) (hk : scope.kind = .function := by rfl) :
    codeC (model prog w) A (.call (.ref a) ⟨args, []⟩) R s := by
  refine codeC_call_cells (fd := Calls.docDef name params body scope pm cd doc) hroom ho hdata hlim hcd rfl hbind rfl hkind (fun s₁ X => ?_) hco hgen hk
  obtain ⟨h₁, tk, rfl, _⟩ := X.done
  have F : Fr s.heap s.heap.objs.size h₁ (bindL (envOfC name scope s.heap.objs.size a cd).kindOf binds fun _ => none) := ⟨X.toInCall.ns, X.toInCall.keep, X.toInCall.fresh⟩
  have Y : Cl s.heap.objs.size (cellsFrom (s.heap.objs.size + 1) scope.names []) h₁ (bindC (envOfC name scope s.heap.objs.size a cd).kindOf binds fun _ => none) := ⟨X.cell, X.apart, X.above⟩
  obtain ⟨cells, N, Z⟩ := Cl.news (h₀ := s.heap) (Nat.le_refl _) fun n c hm => ⟨Y.cell n c (lookup_of_mem_nodup (cellsFrom_names scope.names 0 (s.heap.objs.size + 1) [] [] rfl ▸ hnd) hm), Y.above n c hm⟩
  exact h h₁ tk cells F N Z
end
theorem six_ints {a b c d e f : Int} {ta tb tc td te tf : Tok} {i : Nat} {x : Value} (hx : [Value.int a ta, .int b tb, .int c tc, .int d td, .int e te, .int f tf][i]? = some x) : ∃ z u, x = .int z u := by
  rcases i with _ | _ | _ | _ | _ | _ | i <;> simp at hx <;> exact ⟨_, _, hx.symm⟩
theorem text_six {ms : List Int} (hl : ms.length = 6) (hb : ∀ n ∈ ms, 1 ≤ n ∧ n ≤ 3) : ∃ x0 x1 x2 x3 x4 x5 : UInt8, (ms.map fun n => n.toNat.toUInt8) = [x0, x1, x2, x3, x4, x5] ∧ ms = KBw.bInts #[x0, x1, x2, x3, x4, x5] := by
  obtain ⟨a, b, c, d, e, f, rfl⟩ : ∃ a b c d e f, ms = [a, b, c, d, e, f] := by
    match ms, hl with
    | [a, b, c, d, e, f], _ => exact ⟨a, b, c, d, e, f, rfl⟩
  have k : ∀ n ∈ [a, b, c, d, e, f], ((n.toNat.toUInt8.toNat : Nat) : Int) = n := fun n hn => by
    have := hb n hn
    exact byte_back (by omega) (by omega)
  refine ⟨_, _, _, _, _, _, rfl, ?_⟩
  simp only [List.mem_cons, List.not_mem_nil, or_false, forall_eq_or_imp, forall_eq] at k
  obtain ⟨k1, k2, k3, k4, k5, k6⟩ := k
  show [a, b, c, d, e, f] = [((a.toNat.toUInt8.toNat : Nat) : Int), ((b.toNat.toUInt8.toNat : Nat) : Int), ((c.toNat.toUInt8.toNat : Nat) : Int), ((d.toNat.toUInt8.toNat : Nat) : Int), ((e.toNat.toUInt8.toNat : Nat) : Int), ((f.toNat.toUInt8.toNat : Nat) : Int)]
  rw [k1, k2, k3, k4, k5, k6]
theorem telC_use {w : World} {mean : ExcName → Option Value} {mg mb : Str → Option Value} {D U : Nat} {f : Addr} {vs : List Value} {kw : List (Str × Value)} {news : Led} {Post : Value → Led → Prop}
    {dp un : Nat} {gd : Option (List Code)} {cn : Str} {cs : Scope} {a : Addr} {ccd : Value} {cl : List (Str × Addr)} {outer : List Env} {A₀ : Around} {base h₀ : Heap} {L : Addr} {m : Str → Option Value} {s : Shared} {Q E : Value → Shared → Prop}
    (B : Below A₀ base outer h₀) (F : Fr h₀ L s.heap m) (X : (Mine.hd.heap_1 w.params).In h₀) (N : News h₀ L s.heap news) (T : Top Mine.hd.view_1 [Str.ofString "insort_right", Str.ofString "bisect_right", Str.ofString "bisect_left"] mean mg mb h₀) (hk : cs.kind = .function)
    (C : TelC w mean mg mb D U f vs kw news Post) (hd : dp + D < recursionLimit) (hu : un + U < cLine)
    (ret : ∀ r news' h' tk', Fr h₀ L h' m → News h₀ L h' news' → Post r news' → Q r { s with heap := h', toks := tk' }) :
    wpC (model PySem.Challenge.rw_wf0032_01.row.prog w) (ktrTop dp un gd cn cs L a ccd cl outer) (call (.ref f) vs kw) Q E s :=
  C dp un gd cn cs a ccd cl outer A₀ base h₀ L m s Q E B F X N T hk hd hu ret
theorem rev_mem {x0 x1 x2 x3 x4 x5 : UInt8} {n : Int} (h : n ∈ KBw.bInts #[x5, x4, x3, x2, x1, x0]) : n ∈ KBw.bInts #[x0, x1, x2, x3, x4, x5] := by
  simp only [KBw.bInts, List.map_cons, List.map_nil, List.mem_cons, List.not_mem_nil, or_false] at h ⊢
  rcases h with h | h | h | h | h | h <;> simp [h]
theorem idx_filter {n : Led} {L2 : Nat} {ix : Addr} {l b r : List Int} (h : ∀ p ∈ n, (∃ v, p.2.data = .cell v) ∨ @LT.lt Nat _ L2 p.1) (hi : IdxAt n ix l b r) : IdxAt (n.filter fun p => decide (@LT.lt Nat _ L2 p.1)) ix l b r := by
  obtain ⟨la, bg, rk, n1, n2, n3, n4, v1, v2, v3, h1, h2, i1, h3, i2, h4, i3⟩ := hi
  have k : ∀ {a : Addr} {o : Obj}, (a, o) ∈ n → (∀ v, o.data ≠ .cell v) → (a, o) ∈ n.filter fun p => decide (@LT.lt Nat _ L2 p.1) := fun {a o} hm hv => by
    rcases h _ hm with ⟨v, e⟩ | e
    · exact absurd e (hv v)
    · exact List.mem_filter.mpr ⟨hm, decide_eq_true e⟩
  exact ⟨la, bg, rk, n1, n2, n3, n4, v1, v2, v3, k h1 (fun v e => nomatch e), k h2 (fun v e => nomatch e), i1, k h3 (fun v e => nomatch e), i2, k h4 (fun v e => nomatch e), i3⟩
theorem IdxAt.sub {n n' : Led} {ix : Addr} {l b r : List Int} (hi : IdxAt n ix l b r) (hs : ∀ p ∈ n, p ∈ n') : IdxAt n' ix l b r := by
  obtain ⟨la, bg, rk, n1, n2, n3, n4, v1, v2, v3, h1, h2, i1, h3, i2, h4, i3⟩ := hi
  exact ⟨la, bg, rk, n1, n2, n3, n4, v1, v2, v3, hs _ h1, hs _ h2, i1, hs _ h3, i2, hs _ h4, i3⟩
/-- the ledger behind the two indexes -/
theorem law_led {h₀ h : Heap} {L : Nat} {Dr ix0 ix1 : Addr} {ys : List Value} {oB oD : Obj} {n1 n2 : Led} {l0 b0 r0 l1 b1 r1 : List Int} (N2 : News h₀ L h n2) (s1 : ∀ p ∈ ([(Dr, lst ys), (L + 1 + 1, oB), (L + 1, oD)] : Led), p ∈ n1)
    (w1 : ∀ p ∈ n1, p ∈ ([(Dr, lst ys), (L + 1 + 1, oB), (L + 1, oD)] : Led) ∨ ∀ q ∈ ([(Dr, lst ys), (L + 1 + 1, oB), (L + 1, oD)] : Led), q.1 < p.1) (s2 : ∀ p ∈ n1, p ∈ n2) (w2 : ∀ p ∈ n2, p ∈ n1 ∨ ∀ q ∈ n1, q.1 < p.1)
    (i1 : IdxAt n1 ix0 l0 b0 r0) (i2 : IdxAt n2 ix1 l1 b1 r1) (cB : ∃ v, oB.data = .cell v) (cD : oD.data = .cell (some (.ref Dr))) (lD : @LT.lt Nat _ (L + 1 + 1) Dr) :
    ∃ B oD', News h₀ L h ((L + 1 + 1, oB) :: (L + 1, oD') :: B) ∧ oD'.data = .cell (some (.ref Dr)) ∧ (Dr, lst ys) ∈ B ∧ IdxAt B ix0 l0 b0 r0 ∧ IdxAt B ix1 l1 b1 r1 ∧ Off B L (L + 1 + 1) := by
  have hw : ∀ p ∈ n2, (∃ v, p.2.data = .cell v) ∨ @LT.lt Nat _ (L + 1 + 1) p.1 := fun p hp => by
    have mB : (L + 1 + 1, oB) ∈ n1 := s1 _ (.tail _ (.head _))
    rcases w2 p hp with hp | hp
    · rcases w1 p hp with hp | hp
      · simp only [List.mem_cons, List.not_mem_nil, or_false] at hp
        rcases hp with rfl | rfl | rfl
        · exact .inr lD
        · exact .inl cB
        · exact .inl ⟨_, cD⟩
      · exact .inr (hp _ (.tail _ (.head _)))
    · exact .inr (hp _ mB)
  refine ⟨n2.filter fun p => decide (@LT.lt Nat _ (L + 1 + 1) p.1), oD, fun p hp => ?_, cD, List.mem_filter.mpr ⟨s2 _ (s1 _ (.head _)), decide_eq_true lD⟩, idx_filter hw (i1.sub s2), idx_filter hw i2, fun p hp => .inr (of_decide_eq_true (List.mem_filter.mp hp).2)⟩
  rcases List.mem_cons.mp hp with rfl | hp
  · exact N2 _ (s2 _ (s1 _ (.tail _ (.head _))))
  · rcases List.mem_cons.mp hp with rfl | hp
    · exact N2 _ (s2 _ (s1 _ (.tail _ (.tail _ (.head _)))))
    · exact N2 _ (List.mem_filter.mp hp).1
theorem bints_txt {x0 x1 x2 x3 x4 x5 : UInt8} (h : ∀ n ∈ KBw.bInts #[x0, x1, x2, x3, x4, x5], 1 ≤ n ∧ n ≤ 3) : Txt (KBw.bInts #[x0, x1, x2, x3, x4, x5]) := ⟨rfl, h⟩
/-- what stands between the turns of the inner loop -/
structure InS where
  g : Addr
  n : Nat
  a : Int
  b : Int
  c : Int
  u1 : Tok
  u2 : Tok
  u3 : Tok
def inL (base : Led) : Option InS → Led
  | none => base
  | some q => (q.g, tupO [.int q.a q.u1, .int q.b q.u2, .int q.c q.u3] q.n) :: base
theorem inL_sub {base : Led} (q : Option InS) : ∀ p ∈ base, p ∈ inL base q := fun p hp => by
  cases q with
  | none => exact hp
  | some q => exact .tail _ hp
/-- its word: the letters up to the k-th are through; the last one's numbers are at hand -/
def InR (tx ms : List Int) (wd : Int → List Int) (Di I : Addr) (vs : List Value) (r : List Itm) (q : Option InS) (m : Str → Option Value) : Prop :=
  ∃ k, r = (vs.drop k).map Itm.val ∧ k ≤ vs.length ∧ match q with
    | none => k = 0
    | some g => ∃ j, k = j + 1 ∧ Nums tx (wd (ms.getD j 0)) g.a g.b g.c ∧ m (Str.ofString "grown") = some (.ref g.g) ∧ @LT.lt Nat _ Di g.g ∧ g.g ≠ I
section
variable {prog : Program} {w : World} {A : Around} {E : Value → Shared → Prop} {s : Shared} {env : Env} {h₀ : Heap} {target : Expr} {body : List Stmt} {Q : Flow → Shared → Prop}
def LeftSm {σ : Type} (Ld : σ → Led) (stored : List Str) (m₀ : Str → Option Value) (R : σ → (Str → Option Value) → Prop) (m' : Str → Option Value) (n' : Led) : Prop :=
  ∃ c', n' = Ld c' ∧ R c' m' ∧ ∀ z, stored.contains z = false → m' z = m₀ z
theorem leftM_fr {L : Addr} {h : Heap} {stored : List Str} {m₀ m₁ : Str → Option Value} (h2 : ∀ z, stored.contains z = false → m₁ z = m₀ z) (F : Fr h₀ L h m₁) : Fr h₀ L h (fun z => if stored.contains z then m₁ z else m₀ z) := by
  have e : (fun z => if stored.contains z then m₁ z else m₀ z) = m₁ := by
    funext z
    cases h3 : stored.contains z with
    | true => simp
    | false => simp only [Bool.false_eq_true, if_false]; exact (h2 z h3).symm
  rw [e]
  exact F
/-- a loop's items, where what a turn leaves under a name is told by the state -/
theorem items_sm {σ : Type} {ws : List (Addr × String)} {keep : Led} {xs : List Itm} {m₀ : Str → Option Value} {news : Led} (Ld : σ → Led) (stored : List Str) (R : List Itm → σ → (Str → Option Value) → Prop) (c₀ : σ)
    (hn : news = Ld c₀) (hr : R xs c₀ m₀)
    (turn : ∀ a r c m₁ v h tk, R (a :: r) c m₁ → a.Is v h → Fr h₀ env.locals h (fun z => if stored.contains z then m₁ z else m₀ z) → AllObj ws (fun its => News h₀ env.locals h (its ++ Ld c) →
      wpAny (model prog w) A (assign target env v) (fun _ s₂ => wpAny (model prog w) A (execs body env) (UnrPostW h₀ env.locals { s with heap := h, toks := tk } its (fun m' n' => SubL keep n' ∧ LeftSm Ld stored m₀ (R r) m' n') Q) E s₂) E { s with heap := h, toks := tk }))
    (done : ∀ c m₁ h tk, R [] c m₁ → Fr h₀ env.locals h (fun z => if stored.contains z then m₁ z else m₀ z) → News h₀ env.locals h (Ld c) → Q .next { s with heap := h, toks := tk }) :
    ItemsRest prog w A E h₀ env target body Q s ws keep xs m₀ news := by
  refine items_inv (fun r m n => LeftSm Ld stored m₀ (R r) m n) xs m₀ news ⟨c₀, hn, hr, fun _ _ => rfl⟩ ?_ ?_
  · rintro a r m₁ n₁ v h tk ⟨c, rfl, hR, h2⟩ hv F
    exact turn a r c m₁ v h tk hR hv (leftM_fr h2 F)
  · rintro m₁ n₁ h tk ⟨c, rfl, hR, h2⟩ F N
    exact done c m₁ h tk hR (leftM_fr h2 F) N
theorem turnM_end {σ : Type} {Ld : σ → Led} {stored : List Str} {m₀ : Str → Option Value} {R : σ → (Str → Option Value) → Prop} {keep : Led} {L : Addr} {s₁ : Shared} {I : Addr} {o : Obj} {h' : Heap} {tk : Nat} {m' : Str → Option Value} {all : Led} (c' : σ)
    (F : Fr h₀ L h' m') (N : News h₀ L h' all) (hI : (I, o) ∈ all) (hsub : ∀ p ∈ Ld c', p ∈ all) (off : ∀ p ∈ Ld c', p.1 ≠ I) (hkeep : SubL keep (Ld c')) (hR : R c' m') (hz : ∀ z, stored.contains z = false → m' z = m₀ z) :
    UnrEndW h₀ L s₁ [(I, o)] (fun m' n' => SubL keep n' ∧ LeftSm Ld stored m₀ R m' n') { s₁ with heap := h', toks := tk } :=
  ⟨h', tk, m', Ld c', rfl, F, fun p hp => by
    rcases List.mem_append.mp hp with hp | hp
    · rw [List.mem_singleton.mp hp]; exact N _ hI
    · exact N p (hsub p hp), fun p hp q hq => by rw [List.mem_singleton.mp hq]; exact off p hp, hkeep, c', rfl, hR, hz⟩
end
/-- what stands between the turns of law's loop -/
structure LwS where
  st : Addr
  n : Nat
  lo : Int
  ot : Int
  wi : Int
  u1 : Tok
  u2 : Tok
  u3 : Tok
  f : Int
  l : Int
  tf : Tok
  tl : Tok
  oB : Obj
def lwL (L : Nat) (Di ix0 ix1 : Addr) (nD : Nat) (oD : Obj) (B : Led) (q : LwS) : Led :=
  (q.st, tupO [.int q.lo q.u1, .int q.ot q.u2, .int q.wi q.u3] q.n) :: (Di, tupO [.ref ix0, .ref ix1] nD) :: (L + 1 + 1, q.oB) :: (L + 1, oD) :: B
def lwP (q : LwS) : List (Str × Value) := [(Str.ofString "state", .ref q.st), (Str.ofString "first", .int q.f q.tf), (Str.ofString "last", .int q.l q.tl)]
structure LwR (tx : List Int) (I Di : Addr) (i : Nat) (q : LwS) : Prop where
  f0 : 0 ≤ q.f
  fl : q.l = q.f + i
  l6 : q.l ≤ 6
  nums : Nums tx (cutAt tx q.f.toNat i) q.lo q.ot q.wi
  cb : ∃ v, q.oB.data = .cell v
  lt : @LT.lt Nat _ Di q.st
  ne : q.st ≠ I
theorem wait_of {P : Prop} (h : Wait P) : P := h
theorem words_LW1 : True := by
  k_with "my:call ref" => ((k_here; (first | (with_reducible show wpAny _ _ (call (Value.ref 95) _ _) _ _ _) | (with_reducible show wpAny _ _ (call (Value.ref 100) _ _) _ _ _) | (with_reducible show wpAny _ _ (call (Value.ref 114) _ _) _ _ _) | (with_reducible show wpAny _ _ (call (Value.ref 119) _ _) _ _ _)); refine wait_of ?_))
  k_with "my:exec For Name BinOp cons nil" => ((k_here; (rename Fr _ _ _ _ => lFₓ); (with_unfolding_all refine' For_turns lFₓ ?_); k_whole))
  trivial
theorem txt_at {tx : List Int} (ht : Txt tx) {k : Nat} {c : Int} (hk : k < 6) (hc : tx.getD k 0 = c) : 1 ≤ c ∧ c ≤ 3 := by
  have h1 : k < tx.length := by rw [ht.len]; exact hk
  rw [List.getD_eq_getElem?_getD, List.getElem?_eq_getElem h1, Option.getD_some] at hc
  exact hc ▸ ht.rng _ (List.getElem_mem h1)
theorem three_ints {ta tb tc : Tok} {i : Nat} {x : Value} (hx : [Value.int 1 ta, .int 2 tb, .int 3 tc][i]? = some x) : ∃ z t, x = .int z t ∧ 1 ≤ z ∧ z ≤ 3 := by
  rcases i with _ | _ | _ | i <;> simp at hx <;> exact ⟨_, _, hx.symm, by decide, by decide⟩
theorem item_step {vs : List Value} {k : Nat} {a : Itm} {r : List Itm} (h : a :: r = (vs.drop k).map Itm.val) : ∃ hk : k < vs.length, a = Itm.val vs[k] ∧ r = (vs.drop (k + 1)).map Itm.val := by
  have hk : k < vs.length := by
    rcases Nat.lt_or_ge k vs.length with hk | hk
    · exact hk
    · rw [List.drop_eq_nil_of_le hk] at h; cases h
  rw [List.drop_eq_getElem_cons hk] at h
  obtain ⟨h1, h2⟩ := List.cons.inj h
  exact ⟨hk, h1, h2⟩
theorem letter_at {ms : List Int} {cL : Int} (hm : ∀ n ∈ ms, 1 ≤ n ∧ n ≤ 3) (hc : 1 ≤ cL ∧ cL ≤ 3) {k : Nat} (hk : k < (ms ++ [cL]).length) : ∃ cN : Nat, (ms ++ [cL]).getD k 0 = (cN : Int) ∧ 1 ≤ cN ∧ cN ≤ 3 := by
  have h : ∀ n ∈ ms ++ [cL], 1 ≤ n ∧ n ≤ 3 := fun n hn => by
    rcases List.mem_append.mp hn with hn | hn
    · exact hm n hn
    · rw [List.mem_singleton.mp hn]; exact hc
  have h2 := h _ (List.getElem_mem hk)
  refine ⟨((ms ++ [cL])[k]).toNat, ?_, by omega, by omega⟩
  rw [List.getD_eq_getElem?_getD, List.getElem?_eq_getElem hk, Option.getD_some]
  omega
theorem cut_clip {tx : List Int} {f l : Int} {i : Nat} (ht : tx.length = 6) (f0 : 0 ≤ f) (fl : l = f + i) (l6 : l ≤ 6) : List.take (clipAt tx.length l - clipAt tx.length f) (List.drop (clipAt tx.length f) tx) = cutAt tx f.toNat i := by
  obtain ⟨k, rfl⟩ := Int.eq_ofNat_of_zero_le f0
  obtain rfl : l = ((k + i : Nat) : Int) := by rw [fl]; exact (Int.natCast_add k i).symm
  have h6 : k + i ≤ tx.length := by rw [ht]; exact Int.ofNat_le.mp l6
  rw [clipAt_nat, clipAt_nat, Nat.min_eq_left h6, Nat.min_eq_left (Nat.le_trans (Nat.le_add_right _ _) h6), Nat.add_sub_cancel_left]
  rfl
theorem one_byte {cN : Nat} (h : cN ≤ 3) : List.map (fun c : UInt8 => (c.toNat : Int)) [((cN : Int)).toNat.toUInt8] = [(cN : Int)] := by
  rw [List.map_cons, List.map_nil, byte_back (by omega) (by omega)]
theorem cut_len {tx : List Int} {f i : Nat} (ht : tx.length = 6) (h : f + i ≤ 6) : (cutAt tx f i).length = i := by
  unfold cutAt
  rw [List.length_take, List.length_drop, ht]
  omega
theorem rks_len (tx : List Int) : (rks tx 7).length = 7 := by simp [rks]
theorem beg_len (tx : List Int) : (begL tx).length = 5 := by simp [begL]
theorem fr_named {h₀ h : Heap} {L : Addr} {m : Str → Option Value} {x : Str} {v : Value} (F : Fr h₀ L h m) (e : m x = some v) : Fr h₀ L h (fun y => if y = x then some v else m y) := by
  have h : (fun y => if y = x then some v else m y) = m := by
    funext y
    split
    · next h => rw [h, e]
    · rfl
  rw [h]
  exact F
theorem sub_one {p : Addr × Obj} {l : Led} (h : p ∈ l) : SubL [p] l := ⟨h, trivial⟩
theorem cut_left {tx : List Int} {f : Int} {i : Nat} {c : Int} (ht : tx.length = 6) (f0 : 0 < f) (f6 : f ≤ 6) (hc : tx.getD (f - 1).toNat 0 = c) : c :: cutAt tx f.toNat i = cutAt tx (f - 1).toNat (i + 1) := by
  have h1 : (f - 1).toNat < tx.length := by omega
  unfold cutAt
  rw [List.drop_eq_getElem_cons h1, List.take_succ_cons, show (f - 1).toNat + 1 = f.toNat by omega]
  rw [List.getD_eq_getElem?_getD, List.getElem?_eq_getElem h1, Option.getD_some] at hc
  rw [hc]
theorem cut_right {tx : List Int} {f l : Int} {i : Nat} {c : Int} (ht : tx.length = 6) (f0 : 0 ≤ f) (fl : l = f + i) (l6 : l < 6) (hc : tx.getD l.toNat 0 = c) : cutAt tx f.toNat i ++ [c] = cutAt tx f.toNat (i + 1) := by
  have h1 : l.toNat < tx.length := by omega
  unfold cutAt
  rw [List.getD_eq_getElem?_getD, List.getElem?_eq_getElem h1, Option.getD_some] at hc
  rw [List.take_add_one, List.getElem?_drop, show f.toNat + i = l.toNat by omega, List.getElem?_eq_getElem h1, hc]
  rfl
theorem in_done {tx ms : List Int} {wd : Int → List Int} {Di I : Addr} {vs : List Value} {q : Option InS} {m : Str → Option Value} {cL : Int} (hl : vs.length = (ms ++ [cL]).length) (h : InR tx (ms ++ [cL]) wd Di I vs [] q m) :
    ∃ g : InS, q = some g ∧ Nums tx (wd cL) g.a g.b g.c ∧ m (Str.ofString "grown") = some (.ref g.g) ∧ @LT.lt Nat _ Di g.g ∧ g.g ≠ I := by
  obtain ⟨k, hr, hk, hq⟩ := h
  have hk2 : k = vs.length := by
    have := congrArg List.length hr
    rw [List.length_map, List.length_drop, List.length_nil] at this
    omega
  rw [List.length_append, List.length_singleton] at hl
  cases q with
  | none =>
    have : k = 0 := hq
    omega
  | some g =>
    obtain ⟨j, h1, h2, h3⟩ := hq
    have e : (ms ++ [cL]).getD j 0 = cL := by
      rw [show j = ms.length by omega, List.getD_eq_getElem?_getD, List.getElem?_append_right (Nat.le_refl _), Nat.sub_self]
      rfl
    rw [e] at h2
    exact ⟨g, rfl, h2, h3⟩
/-- the word grown by a letter -/
def wdB (tx : List Int) (f : Int) (i : Nat) (b : Bool) (c : Int) : List Int := match b with
  | true => c :: cutAt tx f.toNat i
  | false => cutAt tx f.toNat i ++ [c]
theorem wdB_len {tx : List Int} {f : Int} {i : Nat} {b : Bool} {c : Int} (h : (cutAt tx f.toNat i).length = i) : (wdB tx f i b c).length = i + 1 := by
  cases b <;> simp [wdB, h]
theorem wdB_nums {tx : List Int} (ht : Txt tx) {f : Int} {i cN : Nat} {b : Bool} {lo ot wi : Int} (h : Nums tx (cutAt tx f.toNat i) lo ot wi) (hl : (cutAt tx f.toNat i).length ≤ 5) (h1 : 1 ≤ cN) (h3 : cN ≤ 3) :
    Nums tx (wdB tx f i b (cN : Int)) (exA (laidL tx) (begL tx) (laidL tx.reverse) (begL tx.reverse) lo ot wi cN b) (exX (laidL tx) (begL tx) (laidL tx.reverse) (begL tx.reverse) lo ot wi cN b) (exW (laidL tx) (begL tx) (laidL tx.reverse) (begL tx.reverse) lo ot wi cN b) := by
  cases b
  · have := nums_right ht h hl (c := (cN : Int)) (by omega)
    rw [Int.toNat_natCast] at this
    exact this
  · have := nums_left ht h hl (c := (cN : Int)) (by omega)
    rw [Int.toNat_natCast] at this
    exact this
theorem fr_pack {h₀ h : Heap} {L : Addr} {m : Str → Option Value} (ps : List (Str × Value)) (F : Fr h₀ L h m) (hk : ∀ p ∈ ps, m p.1 = some p.2) : ∃ mB, kstB mB ps = m ∧ Fr h₀ L h (kstB mB ps) :=
  by
  have e : kstB m ps = m := funext fun z => kstB_eq hk fun _ => rfl
  exact ⟨m, e, by rw [e]; exact F⟩
/-- the letter beside the stretch -/
def besB (tx : List Int) (f l : Int) (b : Bool) : Int := match b with
  | true => tx.getD (f - 1).toNat 0
  | false => tx.getD l.toNat 0
set_option maxHeartbeats 40000000 in
theorem law_w : PySem.Challenge.rw_wf0032_01.Holds := by
  w_top off
  refine holds_hd (hd ?_)
  k_fill
  intro w s₀ s₁ mg mb G Y fa o pm cd doc dV kV ho hd hcd hD hmg hg args vals as hpre hlay hrd hwl hlo
  have KX := kIn_of Y
  have X := (Ground.X G).1
  have V := (Ground.X G).2
  refine Ground.open G ?_
  intro T B D TE TW
  try (refine guard_noD D (by decide +kernel) ?_; clear D)
  have T1 : Top Mine.hd.view_1 [Str.ofString "insort_right", Str.ofString "bisect_right", Str.ofString "bisect_left"] (ExcName.means s₀.heap) mg mb s₁.heap := by
    have e : looseW Mine.hd.view_1 [Str.ofString "insort_right", Str.ofString "bisect_right", Str.ofString "bisect_left"] = [Str.ofString "insort_right", Str.ofString "bisect_right", Str.ofString "bisect_left"] := by decide +kernel
    rw [e] at T
    exact T
  obtain ⟨_, _, M⟩ := bmod_of_top T
  have TA := at_of_top T
  obtain ⟨_, _, he, B0⟩ := based_of_top T rfl hmg ho hd
  have he' : cd = _ := he
  subst he'
  clear he hmg
  wrow_args hpre hlay hrd hwl hlo
  rename_i xs _ _ _ _ _ _ _ sa vs _ hL _ _ _ hI _ hlen _
  have hgood : ∀ s' : Shared, (∀ b o, s₁.heap.get? b = some o → s'.heap.get? b = some o) → s'.os = s₁.os → s'.gens = #[] → GoodW PySem.Challenge.rw_wf0032_01.row.claim (classAt s₀.heap) (ExcName.means s₀.heap) [ofPy (PyData.list (List.map PyData.int xs))] s₁ (.ok (.ret (.bool true))) s' :=
    fun s' h1 h2 h3 => ⟨.inl ⟨_, .bool true, [], rfl, fun _ => rfl, .bool true, postW_of (by wrow_shape) (by wtm_val) (by str_meet; first | done | w_fin), unshared_nil⟩, h1, h2, h3⟩
  refine ⟨(hgood s₁ (fun _ _ e => e) rfl hg).toG, ?_⟩
  refine wpC_call (codeC_mono (R := GoodW PySem.Challenge.rw_wf0032_01.row.claim (classAt s₀.heap) (ExcName.means s₀.heap) [ofPy (PyData.list (List.map PyData.int xs))] s₁) ?_ (fun res s' g => by rcases g.1 with ⟨v, _, _, rfl, _⟩ | ⟨e, _, _, rfl, _⟩ <;> exact g.toG))
  refine codeC_wish (fun R' => ∀ (h' : Heap) (tk' : Nat) (m' : Str → Option Value), Fr s₁.heap s₁.heap.objs.size h' m' → R' (.ok (.ret (.bool true))) { s₁ with heap := h', toks := tk' }) (fun h' tk' m' F' => hgood { s₁ with heap := h', toks := tk' } F'.keep rfl hg) fun R9 hR9 => ?_
  clear hgood
  have K0 := below_caller (Top.heap T)
  have he := Dflts.none hD rfl
  subst he
  have he := Dflts.noKw hD
  subst he
  refine codeC_cellsN (by decide) ho (fd_plain hd) (Top.nolimit T) hcd rfl (kinds_of (by kinds_ok)) (by decide) fun h₁ tk₁ cells F N0 X0 => ?_
  k_cells X0
  rename_i oB oD0 dB dD0
  clear hd TA
  obtain ⟨ol, hol, _⟩ := id hL
  k_drop
  dsimp only at F
  show wpC _ _ (execs (_ :: _ :: _ :: _) _) _ _ _
  refine wpC_noRaise ?_
  refine wpC_qabs fun Q0 hQ0 => ?_
  refine wpC_execs (wpC_any ?_)
  k_steps
  have hvl : vs.length ≤ 63 := by rw [IntsAre.length hI]; omega
  rename Fr s₁.heap _ _ _ => F1
  refine comp_list2 _ (σ := Unit) (fun _ => _) () (fun i _ ys => ∃ ns, IntsAre ys ns ∧ ns.length = i ∧ ∀ n ∈ ns, 0 ≤ n ∧ n < 1000000) (by rfl) F1 N0 (vs := vs) (ol := _) (F1.lst hL) (.inr hol) (fun _ _ _ _ h => h) (by rw [sizeLine_eq]; omega) rfl
      (fun _ _ => rfl) (asg_plain (V := fun i v => vs[i]? = some v) (by rfl) (by rfl) fun i v h _ hP => hP) ⟨[], .nil, rfl, fun n hn => by cases hn⟩ ?_ ?_
  · rintro s₂ I2 lI2 ⟨h2, tk2, rfl⟩
    refine turn_plain (by decide) ?_
    rintro j c ys C Dl oC m₂ v h tk E' hj hx912 hv hb9 hoC F2 ap hws hDC
    refine allObj1 fun o1 c1 N3 => ?_
    refine tst_abs fun P9 P8 hP9 hP8 => ?_
    refine goal_abs fun hG9 => ?_
    obtain ⟨ns, hns, hnl, hnb⟩ := hx912
    simp only [List.cons_append, List.nil_append] at N3
    obtain ⟨t, rfl⟩ := IntsAre.int_at hI _ _ hv
    obtain ⟨NL, hNL, N4⟩ := News.abs N3
    clear N3
    have hCm : (C, oC) ∈ NL := by rw [hNL]; (repeat (first | exact List.Mem.head _ | refine' List.Mem.tail _ ?_))
    refine hG9 ?_
    clear hG9
    show wpAny _ _ _ _ _ _
    k_steps
    subst hP9
    rename Fr s₁.heap _ _ _ => F7
    refine cend_same () F7 N4 (fun p hp => by rw [hNL]; exact hp) ap ⟨_, hns.append (.cons _ _ .nil), by simp [hnl], fun n hn => ?_⟩
    rcases List.mem_append.mp hn with hn | hn
    · exact hnb n hn
    · rw [List.mem_singleton.mp hn]
      rw [Int.fmod_eq_emod_of_nonneg _ (by decide)]
      exact ⟨Int.emod_nonneg _ (by decide), Int.emod_lt_of_pos _ (by decide)⟩
  · rintro c ys' h tk hx94
    intro Dr h' tk' F3 N3 lr1 lr2
    refine goal_abs fun hG9 => ?_
    obtain ⟨ns, hns, hnl, hnb⟩ := hx94
    k_lt lr1
    refine hG9 ?_
    clear hG9
    k_steps

    show wpC _ _ (execs (_ :: _ :: _) _) _ _ _
    refine wpC_execs (wpC_any ?_)
    k_steps
    rename Fr s₁.heap _ _ _ => F5
    rename News s₁.heap _ _ _ => N5
    refine comp_enumT2 _ (σ := Unit) (fun _ => _) () (fun i _ ys => ∃ ns, IntsAre ys ns ∧ ns.length = i ∧ ∀ n ∈ ns, 1 ≤ n ∧ n ≤ 3) (by rfl) F5 N5 (.head _) (fun _ _ _ _ => .head _) (Nat.le_of_ble_eq_true rfl) rfl
      (asg_pairP (V := fun i v₁ v₂ => (∃ t, v₁ = .int (i : Nat) t) ∧ ∃ z u, v₂ = .int z u) (by rfl) (by rfl) (by rfl) (by rfl) (by decide) ?_) ⟨[], .nil, rfl, fun n hn => by cases hn⟩ ?_ ?_
    · rintro i v h hi ⟨T, vals, rfl, ⟨t, x, hx, rfl⟩, hT⟩
      obtain ⟨z, u, rfl⟩ := six_ints hx
      exact ⟨_, _, _, rfl, hT, ⟨_, rfl⟩, _, _, rfl⟩
    · rintro s₂ I2 lI2 ⟨h2, tk2, rfl⟩
      rintro j c ys2 C Dl own h tk E' hj hx910 hx911 ho9 F2 ap hws hDl hDC
      refine allObj2 fun o1 c1 o2 c2 N3 => ?_
      refine goal_abs fun hG9 => ?_
      obtain ⟨ms, hms, hml, hmb⟩ := hx910
      obtain ⟨oC, m₂, v₁, v₂, rfl, hnsC, ⟨⟨t3, rfl⟩, z, u3, rfl⟩, b1, b2⟩ := hx911
      simp only [List.cons_append, List.nil_append] at N3
      obtain ⟨NL, hNL, N4⟩ := News.abs N3
      clear N3
      have hCm : (C, oC) ∈ NL := by rw [hNL]; (repeat (first | exact List.Mem.head _ | refine' List.Mem.tail _ ?_))
      obtain ⟨oR, mR, eR⟩ : ∃ o, (s₁.heap.objs.size + 1, o) ∈ NL ∧ o.data = Data.cell (some (.ref Dr)) := ⟨_, by rw [hNL]; (repeat (first | exact List.Mem.head _ | refine' List.Mem.tail _ ?_)), by assumption⟩
      have mD : (Dr, lst ys') ∈ NL := by rw [hNL]; (repeat (first | exact List.Mem.head _ | refine' List.Mem.tail _ ?_))
      have hyl : ys'.length ≤ 1000 := by rw [IntsAre.length hns]; omega
      refine hG9 ?_
      clear hG9
      rw [cellsFrom_none _ _ _ (by decide)]
      refine tst_abs fun P9 P8 hP9 hP8 => ?_
      show wpAny _ _ _ _ _ _
      dsimp only
      k_steps
      subst hP9
      rename Fr s₁.heap _ _ _ => F7
      rename News s₁.heap _ _ _ => N7
      refine cend_same () F7 N7 (fun p hp => .tail _ (by rw [hNL]; exact hp)) ap ⟨_, hms.append (.cons _ _ .nil), by simp [hml], fun n hn => ?_⟩
      rcases List.mem_append.mp hn with hn | hn
      · exact hmb n hn
      · rw [List.mem_singleton.mp hn]
        rw [Int.fmod_eq_emod_of_nonneg _ (by decide)]
        omega
    · rintro c ys2 h tk hx94
      intro Dt h' tk' F3 N3 lr1 lr2
      refine goal_abs fun hG9 => ?_
      obtain ⟨ms, hms, hml, hmb⟩ := hx94
      k_lt lr1
      refine hG9 ?_
      clear hG9
      k_steps
      refine goal_abs fun hG9 => ?_
      obtain ⟨x0, x1, x2, x3, x4, x5, q1, q2⟩ := text_six hml hmb
      have z2 : ys2.length = 6 := by rw [IntsAre.length hms]; exact hml
      refine hG9 ?_
      clear hG9
      refine bytes_K F3 N3 (News.isList N3 (.head _)) hms (fun n hn => by have := hmb n hn; omega) (by rw [z2, sizeLine_eq]; omega) (by rfl) fun h9 t9 k9 F9 N9 _ => ?_
      rw [q1]
      k_steps
      show wpC _ _ (execs (_ :: _ :: _) _) _ _ _
      refine wpC_execs (wpC_Assign_Name (wpC_Call_Name ?_))
      k_steps
      refine callWithC_K KX (by k_is) ?_
      k_steps
      rename Fr s₁.heap _ _ _ => F7
      rename News s₁.heap _ _ _ => N7
      refine telC_use K0 F7 KX N7 T1 rfl (swap_tel w _ mg mb _ x0 x1 x2 x3 x4 x5 _ _) (by ktr_room) (by ktr_units) ?_
      rintro r news' h8 tk8 F8 N8 ⟨rfl, t8, rfl⟩
      k_steps
      refine wpC_any ?_
      dsimp only
      k_steps
      unfold Wait
      rename Fr s₁.heap _ _ _ => F5
      rename News s₁.heap _ _ _ => N5
      have N6 := News.sub N5 (l' := [(Dr, lst ys'), (s₁.heap.objs.size + 1 + 1, _), (s₁.heap.objs.size + 1, _)]) (fun p hp => .tail _ (.tail _ hp))
      refine tel_use K0 F5 KX N6 T1 rfl (index_tel w _ mg mb _ _ _ _ rfl rfl (fun n hn => hmb n (q2 ▸ hn))) (by ktr_room) (by ktr_units) ?_
      rintro r n1 h1 tk1 F1 N1 ⟨ix0, rfl, s1, w1, i1⟩
      k_steps
      unfold Wait
      refine tel_use K0 F1 KX N1 T1 rfl (index_tel w _ mg mb _ _ _ _ rfl rfl (fun n hn => hmb n (q2 ▸ rev_mem hn))) (by ktr_room) (by ktr_units) ?_
      rintro r n2 h2 tk2 F2 N2 ⟨ix1, rfl, s2, w2, i2⟩
      refine goal_abs fun hG9 => ?_
      obtain ⟨B, oD, N3, eD, mDr, i1, i2, hoff⟩ := law_led N2 s1 w1 s2 w2 i1 i2 ⟨_, dB⟩ (by assumption) (by omega)
      refine hG9 ?_
      clear hG9
      have htx := bints_txt (q2 ▸ hmb)
      have ert : KBw.bInts #[x5, x4, x3, x2, x1, x0] = (KBw.bInts #[x0, x1, x2, x3, x4, x5]).reverse := rfl
      rw [ert] at i2
      generalize hX : KBw.bInts #[x0, x1, x2, x3, x4, x5] = tx at *
      have htr : Txt tx.reverse := ⟨by rw [List.length_reverse, htx.len], fun x hx => htx.rng x (List.mem_reverse.mp hx)⟩
      clear N5 N6 N1 F1 F5 s1 w1 s2 w2 N2
      refine goal_abs fun hG9 => ?_
      obtain ⟨la0, bg0, rk0, a1, a2, a3, a4, v01, v02, v03, h01, h02, j01, h03, j02, h04, j03⟩ := id i1
      obtain ⟨la1, bg1, rk1, a11, a12, a13, a14, v11, v12, v13, h11, h12, j11, h13, j12, h14, j13⟩ := id i2
      refine hG9 ?_
      clear hG9
      dsimp only
      k_steps
      unfold Wait
      rename Fr s₁.heap _ _ _ => F5
      rename News s₁.heap _ _ _ => N5
      refine tel_use K0 F5 KX N5 T1 rfl (ranked_tel w _ mg mb _ _ tx _ rk0 v03 a4 hX htx.len (.tail _ (.tail _ (.tail _ h04))) (rks_eq htx ▸ j03) (rank_ok htx)) (by ktr_room) (by ktr_units) ?_
      rintro r n' h8 tk8 F8 N8 ⟨rfl, rfl⟩
      k_steps
      unfold Wait
      refine tel_use K0 F8 KX N8 T1 rfl (ranked_tel w _ mg mb _ _ tx.reverse _ rk1 v13 a14 ert htr.len (.tail _ (.tail _ (.tail _ h14))) (rks_eq htr ▸ j13) (rank_ok htr)) (by ktr_room) (by ktr_units) ?_
      rintro r n' h8 tk8 F8 N8 ⟨rfl, rfl⟩
      clear F5 N5
      dsimp only
      k_steps
      unfold Wait
      intro I lI
      rename_i Di _ lDi _ _ _ _ _ _ _ _ _ Ds _ lDs Dx _ lDx _ _ _ _ Fp Np _ _ _ _ _ _
      clear Fp Np
      k_lt lI
      have ht6 := htx.len
      have hnum : 0 ≤ (18 + ns.sum + (ns.length : Int)).fmod 7 ∧ (18 + ns.sum + (ns.length : Int)).fmod 7 ≤ 6 := by
        rw [Int.fmod_eq_emod_of_nonneg _ (by decide)]
        omega
      refine range_st (σ := LwS) (lwL s₁.heap.objs.size Di ix0 ix1 0 oD B) lwP [Str.ofString "turn", Str.ofString "left", Str.ofString "letter", Str.ofString "word", Str.ofString "grown"] (LwR tx I Di)
        ⟨Ds, 0, 0, 0, 7, _, _, _, (18 + ns.sum + (ns.length : Int)).fmod 7, (18 + ns.sum + (ns.length : Int)).fmod 7, _, _, oB⟩ (fun p hp => .tail _ hp) (by kst_all) ⟨hnum.1, by simp, hnum.2, by simpa [cutAt] using nums_nil, ⟨_, dB⟩, And.left lDs, by k_ne⟩ ?_ ?_
      · rintro i ⟨st, nt, lo, ot, wi, u1, u2, u3, f, l, tf, tl, oB'⟩ u t h tk hi hx97 F1 N1
        refine goal_abs fun hG9 => ?_
        obtain ⟨f0, fl, l6, nums, ⟨vb, cb⟩, lst, nst⟩ := hx97
        dsimp only [lwL, lwP] at F1 N1 f0 fl l6 nums cb lst nst
        replace hi : i < 6 := hi
        obtain ⟨M1, hM1, F2⟩ := Fr.abs F1
        refine hG9 ?_
        clear hG9
        refine wp_abs fun Q9 hQ9 => ?_
        refine execs_cut (fun s' => ∃ b h' tk', s' = { s₁ with heap := h', toks := tk' } ∧ Fr s₁.heap s₁.heap.objs.size h' (fun y => if y = Str.ofString "left" then some (.bool b) else M1 y) ∧ News s₁.heap s₁.heap.objs.size h' ((I, itR ((i + 1 : Nat) : Int) ((6 : Int) - ((i + 1 : Nat) : Int))) :: (st, tupO [.int lo u1, .int ot u2, .int wi u3] nt) :: (Di, tupO [.ref ix0, .ref ix1] 0) :: (s₁.heap.objs.size + 1 + 1, oB') :: (s₁.heap.objs.size + 1, oD) :: B) ∧ (b = true → 0 < f) ∧ (b = false → l < 6)) ?_ ?_
        · subst hM1
          clear F1
          try dsimp only
          set_option tactic.hygienic false in
          k_steps
          all_goals (rename Fr _ _ _ _ => F9; rename News _ _ _ _ => N9; refine ⟨rfl, _, _, _, rfl, F9, N9, ?_, ?_⟩ <;> intro e)
          all_goals first | omega | (simp at e; omega)
        · rintro s' hx91
          refine goal_abs fun hG9 => ?_
          obtain ⟨b, h9, tk9, rfl, F3, N3, hb1, hb2⟩ := hx91
          subst hM1
          clear F1 F2 N1
          refine hG9 ?_
          clear hG9
          try dsimp only
          set_option tactic.hygienic false in
          rename IdxAt _ ix0 _ _ _ => ia0
          rename IdxAt _ ix1 _ _ _ => ia1
          refine goal_abs fun hG9 => ?_
          obtain ⟨mB, hmB, F4⟩ := fr_pack [(Str.ofString "left", .bool b), (Str.ofString "text", .bytes _ _), (Str.ofString "first", .int f tf), (Str.ofString "last", .int l tl), (Str.ofString "indexes", .ref Di), (Str.ofString "state", .ref st)] F3 (by kst_all)
          clear F3
          obtain ⟨cL, hcL⟩ : ∃ c, besB tx f l b = c := ⟨_, rfl⟩
          have hcr : 1 ≤ cL ∧ cL ≤ 3 := by
            subst hcL
            cases b
            · exact txt_at htx (by have := hb2 rfl; omega) rfl
            · exact txt_at htx (by have := hb1 rfl; omega) rfl
          obtain ⟨M2, hM2, F5⟩ := Fr.abs F4
          refine hG9 ?_
          clear hG9
          refine execs_cut (fun s' => ∃ h' tk' oB2 t, s' = { s₁ with heap := h', toks := tk' } ∧ oB2.data = .cell (some (.int cL t)) ∧ Fr s₁.heap s₁.heap.objs.size h' M2 ∧
            News s₁.heap s₁.heap.objs.size h' ((I, itR ((i + 1 : Nat) : Int) ((6 : Int) - ((i + 1 : Nat) : Int))) :: (st, tupO [.int lo u1, .int ot u2, .int wi u3] nt) :: (Di, tupO [.ref ix0, .ref ix1] 0) :: (s₁.heap.objs.size + 1 + 1, oB2) :: (s₁.heap.objs.size + 1, oD) :: B)) ?_ ?_
          · subst hM2
            clear F5
            cases b
            · have hf := hb2 rfl
              have hcl : tx.getD l.toNat 0 = cL := hcL
              clear hcL hb1 hb2
              k_steps
              rename Fr _ _ _ _ => F9
              rename News _ _ _ _ => N9
              exact ⟨rfl, _, _, _, _, rfl, by assumption, F9, N9⟩
            · have hf := hb1 rfl
              have hcl : tx.getD (f - 1).toNat 0 = cL := hcL
              clear hcL hb1 hb2
              k_steps
              rename Fr _ _ _ _ => F9
              rename News _ _ _ _ => N9
              exact ⟨rfl, _, _, _, _, rfl, by assumption, F9, N9⟩
          · rintro s' hx91
            refine goal_abs fun hG9 => ?_
            obtain ⟨h8, tk8, oB2, tB, rfl, dB2, F6, N6⟩ := hx91
            subst hM2
            (try clear F5); (try clear F4); (try clear N3)
            refine hG9 ?_
            clear hG9
            k_steps
            rename Fr s₁.heap _ _ _ => F4
            rename News s₁.heap _ _ _ => N4
            refine comp_tup2 _ (σ := Unit) (fun _ => _) () (fun i _ ys => ∃ ms, IntsAre ys ms ∧ ms.length ≤ i ∧ ∀ n ∈ ms, 1 ≤ n ∧ n ≤ 3) (by rfl) F4 N4 (.head _) (fun _ _ _ _ => .head _) (Nat.le_of_ble_eq_true rfl) rfl (fun _ _ => rfl)
              (asg_plain (V := fun i v => ∃ z t, v = .int z t ∧ 1 ≤ z ∧ z ≤ 3) (by rfl) (by rfl) fun i v h _ hP => three_ints hP) ⟨[], .nil, Nat.le_refl _, fun n hn => by cases hn⟩ ?_ ?_
            · rintro s₂ I2 lI2 ⟨h2, tk2, rfl⟩
              refine turn_plain (by decide) ?_
              rintro j c ys3 C Dl oC m₂ v h tk E' hj hx912 hx913 hb9 hoC F5 ap hws hDC
              refine allObj1 fun o1 c1 N5 => ?_
              refine tst_abs fun P8 P7 hP8 hP7 => ?_
              refine goal_abs fun hG9 => ?_
              obtain ⟨ms3, hms3, hml3, hmb3⟩ := hx912
              obtain ⟨z, tz, rfl, z1, z3⟩ := hx913
              simp only [List.cons_append, List.nil_append] at N5
              obtain ⟨NL, hNL, N7⟩ := News.abs N5
              clear N5
              have hCm : (C, oC) ∈ NL := by rw [hNL]; (repeat (first | exact List.Mem.head _ | refine' List.Mem.tail _ ?_))
              obtain ⟨oR, mR, eR⟩ : ∃ o, (s₁.heap.objs.size + 1 + 1, o) ∈ NL ∧ o.data = Data.cell (some (.int cL _)) := ⟨_, by rw [hNL]; (repeat (first | exact List.Mem.head _ | refine' List.Mem.tail _ ?_)), dB2⟩
              refine hG9 ?_
              clear hG9
              show wpAny _ _ _ _ _ _
              dsimp only
              k_steps
              all_goals (subst hP8; subst hP7)
              all_goals (rename Fr _ _ _ _ => F9)
              · exact cend_same () F9 N7 (fun p hp => by rw [hNL]; exact hp) ap ⟨_, hms3.append (.cons _ _ .nil), by simp; omega, fun n hn => by
                  rcases List.mem_append.mp hn with hn | hn
                  · exact hmb3 n hn
                  · rw [List.mem_singleton.mp hn]; exact ⟨z1, z3⟩⟩
              · exact cend_same () F9 N7 (fun p hp => by rw [hNL]; exact hp) ap ⟨_, hms3, by omega, hmb3⟩
            · rintro c ys3 h tk hx94
              intro Dc h' tk' F5 N5 lr1 lr2
              refine goal_abs fun hG9 => ?_
              obtain ⟨ms3, hms3, hml3, hmb3⟩ := hx94
              k_lt lr1
              (try clear F4); (try clear N4); (try clear F6); (try clear N6)
              refine hG9 ?_
              clear hG9
              k_steps
              rename_i Dtu _ ltu Dq _ lq Dls ws _ Fq Nq hIq lls
              refine goal_abs fun hG9 => ?_
              obtain ⟨base, hbase⟩ : ∃ base : Led, base = (Dls, PySem.W.listOf (List.toArray ws) 0) :: (I, itR ((i + 1 : Nat) : Int) ((6 : Int) - ((i + 1 : Nat) : Int))) :: (st, tupO [.int lo u1, .int ot u2, .int wi u3] nt) :: (Di, tupO [.ref ix0, .ref ix1] 0) :: (s₁.heap.objs.size + 1 + 1, oB2) :: (s₁.heap.objs.size + 1, oD) :: B := ⟨_, rfl⟩
              have Nb : News s₁.heap s₁.heap.objs.size _ base := News.sub Nq (by
                rw [hbase]
                refine List.forall_mem_cons.mpr ⟨.head _, fun p hp => .tail _ (.tail _ (.tail _ (.tail _ hp)))⟩)
              have mls : (Dls, PySem.W.listOf (List.toArray ws) 0) ∈ base := by rw [hbase]; exact .head _
              refine hG9 ?_
              clear hG9
              with_unfolding_all refine iter_listTurns (by rfl) Fq Nb mls rfl rfl ?_
              intro J lJ
              refine items_sm (inL base) [Str.ofString "letter", Str.ofString "word", Str.ofString "grown"] (InR tx (ms3 ++ [cL]) (wdB tx f i b) Di I ws) none rfl ⟨0, rfl, Nat.zero_le _, rfl⟩ ?_ ?_
              · rintro a r q m₁ v h tk hx97 hv F1
                refine allObj1 fun o1 c1 N1 => ?_
                refine goal_abs fun hG9 => ?_
                obtain ⟨k, hr, hk, hq⟩ := hx97
                have N2 := News.sub N1 (l' := (J, o1) :: base) (fun p hp => by
                  rcases List.mem_cons.mp hp with rfl | hp
                  · exact .head _
                  · exact List.mem_append_right _ (inL_sub q p hp))
                clear N1 hq
                obtain ⟨hkl, rfl, rfl⟩ := item_step hr
                obtain rfl : v = ws[k] := hv
                obtain ⟨tc, hcv⟩ := IntsAre.int_at hIq k _ (List.getElem?_eq_getElem hkl)
                obtain ⟨cN, hcN, hc1, hc3⟩ : ∃ cN : Nat, (ms3 ++ [cL]).getD k 0 = (cN : Int) ∧ 1 ≤ cN ∧ cN ≤ 3 := letter_at hmb3 hcr (by rw [← IntsAre.length hIq]; exact hkl)
                rw [hcN] at hcv
                refine hG9 ?_
                clear hG9
                rw [hcv]
                have hsB : ∀ p ∈ B, p ∈ base := fun p hp => by rw [hbase]; (repeat (first | assumption | refine' List.Mem.tail _ ?_))
                have mDi : (Di, tupO [.ref ix0, .ref ix1] 0) ∈ base := by rw [hbase]; (repeat (first | exact List.Mem.head _ | refine' List.Mem.tail _ ?_))
                have mst : (st, tupO [.int lo u1, .int ot u2, .int wi u3] nt) ∈ base := by rw [hbase]; (repeat (first | exact List.Mem.head _ | refine' List.Mem.tail _ ?_))
                have mI : (I, itR ((i + 1 : Nat) : Int) ((6 : Int) - ((i + 1 : Nat) : Int))) ∈ base := by rw [hbase]; (repeat (first | exact List.Mem.head _ | refine' List.Mem.tail _ ?_))
                (try clear Fq); (try clear Nq); (try clear Nb); (try clear F5); (try clear N5); (try clear hbase)
                refine turn_abs fun Q8 hQ8 => ?_
                walk1
                walk1
                try dsimp only
                rename Fr _ _ _ _ => F7
                refine goal_abs fun hG9 => ?_
                obtain ⟨M3, hM3, F8⟩ := Fr.abs F7
                refine hG9 ?_
                clear hG9
                refine execs_cut (fun s' => ∃ h' tk' wb tw, s' = { s₁ with heap := h', toks := tk' } ∧ Fr s₁.heap s₁.heap.objs.size h' (fun y => if y = Str.ofString "word" then some (.bytes wb tw) else M3 y) ∧
                  News s₁.heap s₁.heap.objs.size h' ((J, o1) :: base) ∧ KBw.bInts wb = wdB tx f i b (cN : Int)) ?_ ?_
                · subst hM3
                  clear F8
                  try dsimp only
                  cases b
                  · k_steps
                    rename Fr _ _ _ _ => F9
                    rename News _ _ _ _ => N9
                    exact ⟨rfl, _, _, _, _, rfl, F9, News.sub N9 fun p hp => by (repeat (first | assumption | refine' List.Mem.tail _ ?_)), by rename KBw.bInts (_ ++ _) = _ => kb; rw [kb, one_byte hc3, cut_clip htx.len f0 fl l6]; rfl⟩
                  · k_steps
                    rename Fr _ _ _ _ => F9
                    rename News _ _ _ _ => N9
                    exact ⟨rfl, _, _, _, _, rfl, F9, News.sub N9 fun p hp => by (repeat (first | assumption | refine' List.Mem.tail _ ?_)), by rename KBw.bInts (_ ++ _) = _ => kb; rw [kb, one_byte hc3, cut_clip htx.len f0 fl l6]; rfl⟩
                · rintro s' hx91
                  refine goal_abs fun hG9 => ?_
                  obtain ⟨h8, tk8, wb, tw, rfl, F9, N9, hwb⟩ := hx91
                  subst hM3
                  (try clear F8); (try clear F7); (try clear N2); (try clear F1)
                  refine hG9 ?_
                  clear hG9
                  k_steps
                  unfold Wait
                  rename Fr _ _ _ _ => F5
                  rename News _ _ _ _ => N5
                  refine tel_t K0 F5 KX N5 T1 rfl (ext_tel w _ mg mb _ Di st ix0 ix1 0 nt (laidL tx) (begL tx) (rks tx 7) (laidL tx.reverse) (begL tx.reverse) (rks tx.reverse 7) lo ot wi cN b _ _ _ _ (.tail _ mDi) (.tail _ mst) (ia0.sub (fun p hp => .tail _ (hsB p hp))) (ia1.sub (fun p hp => .tail _ (hsB p hp))) (laid_len htx) (laid_len htr) (beg_len _) (beg_len _) (begs_ok htx) (begs_ok htr) (by omega)) (by ktr_room) (by ktr_units) ?_
                  intro g gn v1 v2 v3 h8 tk8 F8 N8 lg
                  clear F5 N5
                  have hcl := cut_len (f := f.toNat) (i := i) htx.len (by omega)
                  have hnew := wdB_nums (b := b) htx nums (by omega) hc1 hc3
                  have hwl := wdB_len (b := b) (c := (cN : Int)) hcl
                  k_steps
                  unfold Wait
                  rename Fr _ _ _ _ => F5
                  rename News _ _ _ _ => N5
                  refine tel_use K0 F5 KX N5 T1 rfl (holds_tel w _ mg mb _ Di g ix0 ix1 0 gn (laidL tx) (begL tx) (rks tx 7) (laidL tx.reverse) (begL tx.reverse) (rks tx.reverse 7) tx (wdB tx f i b (cN : Int)) _ _ _ _ _ _ _ _ _ _ (.tail _ (.tail _ mDi)) (.head _) (ia0.sub (fun p hp => .tail _ (.tail _ (hsB p hp)))) (ia1.sub (fun p hp => .tail _ (.tail _ (hsB p hp)))) (rks_len _) (rks_len _) hX hwb htx.len (by omega) (by omega)) (by ktr_room) (by ktr_units) ?_
                  rintro r n' h9 tk9 F9 N9 ⟨rfl, rfl⟩
                  clear F5 N5
                  rw [holds_ok htx hnew (by omega)]
                  k_steps
                  have lJg : @LT.lt Nat _ J g := lg _ (.head _)
                  have lDg : @LT.lt Nat _ Di g := lg _ (.tail _ mDi)
                  have lIg : @LT.lt Nat _ I g := lg _ (.tail _ mI)
                  subst hQ8
                  refine turnM_end (some ⟨g, gn, exA (laidL tx) (begL tx) (laidL tx.reverse) (begL tx.reverse) lo ot wi cN b, exX (laidL tx) (begL tx) (laidL tx.reverse) (begL tx.reverse) lo ot wi cN b, exW (laidL tx) (begL tx) (laidL tx.reverse) (begL tx.reverse) lo ot wi cN b, v1, v2, v3⟩) F9 N9 (.tail _ (.head _)) ?hsub ?hoff ?hkeep ?hR ?hz
                  case hsub => exact List.forall_mem_cons.mpr ⟨.head _, fun p hp => .tail _ (.tail _ hp)⟩
                  case hoff => exact List.forall_mem_cons.mpr ⟨Nat.ne_of_gt lJg, fun p hp => Nat.ne_of_lt (lJ p hp)⟩
                  case hkeep => exact sub_one (.tail _ mls)
                  case hR => exact ⟨k + 1, rfl, hkl, k, rfl, hcN ▸ hnew, rfl, lDg, Nat.ne_of_gt lIg⟩
                  case hz =>
                    intro z hz
                    simp only [List.contains_cons, List.contains_nil, Bool.or_false, Bool.or_eq_false_iff, beq_eq_false_iff_ne, ne_eq] at hz
                    simp [hz]
              · rintro q m₁ h tk hin F1 N1
                refine goal_abs fun hG9 => ?_
                obtain ⟨⟨g, gn, ga, gb, gc, v1, v2, v3⟩, hq, hnum, hg, hDg, hgI⟩ := in_done (IntsAre.length hIq) hin
                subst hq
                have F2 := fr_named F1 (x := Str.ofString "grown") ((if_pos (by decide +kernel)).trans hg)
                clear F1
                subst hbase
                (try clear Fq); (try clear Nq); (try clear Nb); (try clear F5); (try clear N5)
                dsimp only [inL] at N1
                refine hG9 ?_
                clear hG9
                try dsimp only
                have hn2 : Nums tx (wdB tx f i b (besB tx f l b)) ga gb gc := hcL ▸ hnum
                cases b
                · have hf := hb2 rfl
                  k_steps
                  subst hQ9
                  rename Fr _ _ _ _ => F9
                  rw [hmB] at F9
                  rename News _ _ _ _ => N9
                  refine' range_end ⟨g, gn, ga, gb, gc, v1, v2, v3, f, l + 1, tf, _, oB2⟩ F9 N9 (.tail _ (.tail _ (.head _))) ?hsub ?hoff ?hR ?hkk ?hz
                  case hkk => kst_all
                  case hz => (simp only [lwP]; ksw_same)
                  case hsub => exact List.forall_mem_cons.mpr ⟨.head _, fun p hp => by (repeat (first | assumption | refine' List.Mem.tail _ ?_))⟩
                  case hoff => exact List.forall_mem_cons.mpr ⟨hgI, List.forall_mem_cons.mpr ⟨Nat.ne_of_lt lI.2.2.1, List.forall_mem_cons.mpr ⟨Nat.ne_of_lt lI.2.2.2.1, List.forall_mem_cons.mpr ⟨Nat.ne_of_lt lI.2.2.2.2.1, fun p hp => Nat.ne_of_lt (kst_ltOf lI.2.2.2.2.2 p hp)⟩⟩⟩⟩
                  case hR => exact ⟨f0, by dsimp only; omega, by dsimp only; omega, (cut_right htx.len f0 fl hf rfl : _ = cutAt tx f.toNat (i + 1)) ▸ hn2, ⟨_, dB2⟩, hDg, hgI⟩
                · have hf := hb1 rfl
                  k_steps
                  subst hQ9
                  rename Fr _ _ _ _ => F9
                  rw [hmB] at F9
                  rename News _ _ _ _ => N9
                  refine' range_end ⟨g, gn, ga, gb, gc, v1, v2, v3, f - 1, l, _, tl, oB2⟩ F9 N9 (.tail _ (.tail _ (.head _))) ?hsub ?hoff ?hR ?hkk ?hz
                  case hkk => kst_all
                  case hz => (simp only [lwP]; ksw_same)
                  case hsub => exact List.forall_mem_cons.mpr ⟨.head _, fun p hp => by (repeat (first | assumption | refine' List.Mem.tail _ ?_))⟩
                  case hoff => exact List.forall_mem_cons.mpr ⟨hgI, List.forall_mem_cons.mpr ⟨Nat.ne_of_lt lI.2.2.1, List.forall_mem_cons.mpr ⟨Nat.ne_of_lt lI.2.2.2.1, List.forall_mem_cons.mpr ⟨Nat.ne_of_lt lI.2.2.2.2.1, fun p hp => Nat.ne_of_lt (kst_ltOf lI.2.2.2.2.2 p hp)⟩⟩⟩⟩
                  case hR => exact ⟨by dsimp only; omega, by dsimp only; omega, l6, (cut_left htx.len hf (by omega) rfl : _ = cutAt tx (f - 1).toNat (i + 1)) ▸ hn2, ⟨_, dB2⟩, hDg, hgI⟩
      · rintro ⟨st, nt, lo, ot, wi, u1, u2, u3, f, l, tf, tl, oB'⟩ u h tk hx94 F1 N1
        refine goal_abs fun hG9 => ?_
        obtain ⟨f0, fl, l6, nums, ⟨vb, cb⟩, lst, nst⟩ := hx94
        dsimp only [lwL, lwP] at F1 N1 f0 fl l6 nums cb lst nst
        refine hG9 ?_
        clear hG9
        dsimp only
        set_option tactic.hygienic false in
        subst hQ0
        k_steps
        rename Fr _ _ _ _ => F9
        exact hR9 _ _ _ F9
end Mine
set_option maxRecDepth 100000 in
set_option maxHeartbeats 8000000 in
theorem PySem.Challenge.cw_wf0032_01_holds : PySem.Challenge.rw_wf0032_01.Holds := by
  exact Mine.law_w

import PyProof.Rows.All
import Wide.All
import OpenK.AllK
import Wide.FinOn
import PySem.Challenge.RW_nb0162_01
open PySem PySem.W PyProof.Rows
set_option Elab.async false
set_option maxRecDepth 100000
set_option maxHeartbeats 8000000
local macro_rules | `(tactic| walk_at $s:str) => `(tactic| k_extra $s)
local macro_rules | `(tactic| k_all) => `(tactic| k_extra "k_all")
namespace Mine
/-! runs where no decoder that holds a buffer stands on the stack -/
section
variable {α β : Type} {M : Model} {A : Around} {s : Shared} {env : Env}
def okIds : List String := ["claim.caller", "type.__call__", "bytearray.__init__", "bytearray.append", "bytearray.extend"]
def okCode (c : Code) : Bool := match c with
  | .builtin id _ => okIds.contains id
  | _ => true
def Clean (Γ : Ctx) : Prop := okCode Γ.code = true ∧ (Γ.below.all fun x => okCode x.1) = true
def wpC (M : Model) (A : Around) (t : Sem α) (Q : α → Shared → Prop) (s : Shared) : Prop :=
  ∀ Γ p, Γ.In A → Clean Γ → Sem.wp M Γ t (fun a _ s' => Q a s') (fun _ _ _ => False) p s
def okR (R : Flow → Shared → Prop) (r : Result) (s' : Shared) : Prop := match r with | .ok f => R f s' | .error _ => False
def codeC (M : Model) (A : Around) (c : Code) (R : Flow → Shared → Prop) (s : Shared) : Prop :=
  ∀ Γ p, Γ.code = c → Γ.Below A → Clean Γ → wpCode M Γ (okR R) p s
theorem wpC_any {t : Sem α} {Q : α → Shared → Prop} (h : wpAny M A t Q (fun _ _ => False) s) : wpC M A t Q s := fun Γ p hΓ _ => h Γ p hΓ
theorem wpC_mono {t : Sem α} {Q Q' : α → Shared → Prop} (h : wpC M A t Q s) (hQ : ∀ a s, Q a s → Q' a s) : wpC M A t Q' s :=
  fun Γ p hΓ c => Sem.wp_mono M Γ t (fun a _ s => hQ a s) (fun _ _ _ e => e) p s (h Γ p hΓ c)
theorem wpC_bind {m : Sem α} {f : α → Sem β} {Q : β → Shared → Prop} (h : wpC M A m (fun a s' => wpC M A (f a) Q s') s) : wpC M A (m >>= f) Q s := fun Γ p hΓ c => by
  rw [Sem.wp_bind']
  exact Sem.wp_mono M Γ m (fun a p' s' h' => h' Γ p' hΓ c) (fun _ _ _ e => e) p s (h Γ p hΓ c)
/-- a part that any stack bears -/
theorem wpC_then {m : Sem α} {f : α → Sem β} {Q : β → Shared → Prop} (h : wpAny M A m (fun a s' => wpC M A (f a) Q s') (fun _ _ => False) s) : wpC M A (m >>= f) Q s := wpC_bind (wpC_any h)
theorem wpC_pure {a : α} {Q : α → Shared → Prop} (h : Q a s) : wpC M A (pure a) Q s := fun _ _ _ _ => h
theorem wpC_holding {vs : List Value} {m : Sem α} {Q : α → Shared → Prop} (h : wpC M A m Q s) : wpC M A (holding vs m) Q s := fun Γ p hΓ c => by rw [Sem.wp_holding]; exact h Γ p hΓ c
theorem wpC_keep {vs : List Value} {m : Sem α} {Q : α → Shared → Prop} (h : wpC M A m Q s) : wpC M A (m.keep vs) Q s := fun Γ p hΓ c => by rw [Sem.wp_keep]; exact h Γ p hΓ c
theorem wpC_onRaise {m : Sem α} {k : Value → Sem Unit} {Q : α → Shared → Prop} (h : wpC M A m Q s) : wpC M A (m.onRaise k) Q s := fun Γ p hΓ c => by
  rw [Sem.wp_onRaise]
  exact Sem.wp_mono M Γ m (fun _ _ _ h' => h') (fun _ _ _ e => e.elim) p s (h Γ p hΓ c)
theorem Clean.enter {Γ : Ctx} {c : Code} {p : Pos} {h : Option Value} (x : Clean Γ) (hc : okCode c = true) : Clean (Γ.enter c h p) :=
  ⟨hc, by show (okCode Γ.code && Γ.below.all fun x => okCode x.1) = true; rw [x.1, x.2]; rfl⟩
theorem wpC_run {c : Code} {Q : Flow → Shared → Prop} (hc : codeC M A c Q s) (ok : okCode c = true) : wpC M A (run c none) Q s := fun Γ p hΓ x => by
  rw [Sem.wp_run]
  exact wpCode_mono (fun r s' h => by cases r with | ok f => exact h | error e => exact h) (hc _ p rfl (hΓ.enter c none p (by intro x; cases x)) (x.enter ok))
theorem wpC_runOwn {c : Code} {Q : Flow → Shared → Prop} (hc : codeC M A c Q s) (ok : okCode c = true) : wpC M A (runOwn c env) Q s := by
  unfold runOwn; exact wpC_onRaise (wpC_run hc ok)
theorem wpC_call {f : Value} {pos : List Value} {kw : List (Str × Value)} {Q : Value → Shared → Prop} (hc : codeC M A (.call f ⟨pos, kw⟩) (fun f s' => match f with | .ret v => Q v s' | _ => False) s) : wpC M A (call f pos kw) Q s := fun Γ p hΓ x => by
  show Sem.wp M Γ (runValue _) _ _ p s
  rw [Sem.wp_runValue]
  refine wpCode_mono (fun r s' h => ?_) (hc _ p rfl (hΓ.enter _ none p (by intro x; cases x)) (x.enter rfl))
  cases r with
  | ok f => cases f <;> exact h
  | error e => exact h
theorem codeC_tree {c : Code} {R : Flow → Shared → Prop}
    (h : wpC M (A.under c) (M.den c) (fun fin s' => match fin with | .done f => R f s' | .again c' => c'.quiet = true ∧ okCode c' = true ∧ codeC M A c' R s') s) : codeC M A c R s := fun Γ p hc hΓ x => by
  rw [wpCode_iff_wp, hc]
  refine Sem.wp_mono M Γ _ (fun fin p' s' h' => ?_) (fun _ _ _ e => e.elim) p s (h Γ p (hc ▸ hΓ.in) x)
  cases fin with
  | done f => exact h'
  | again c' => exact ⟨h'.1, h'.2.2 (Γ.goto c') p' rfl (hΓ.goto c') ⟨h'.2.1, x.2⟩⟩
/-- the statements that are left -/
def andThen (M : Model) (A : Around) (rest : List Stmt) (env : Env) (Q : Flow → Shared → Prop) (f : Flow) (s' : Shared) : Prop := match f with
  | .next => wpC M A (execs rest env) Q s'
  | f => Q f s'
theorem execsC_cons {st : Stmt} {rest : List Stmt} {Q : Flow → Shared → Prop} (h : wpC M A (exec st env) (andThen M A rest env Q) s) : wpC M A (execs (st :: rest) env) Q s := fun Γ p hΓ x => by
  rw [execs_cons, Sem.wp_bind']
  refine Sem.wp_mono M Γ _ (fun f p' s' h' => ?_) (fun _ _ _ h' => h') _ _ (h Γ p hΓ x)
  cases f <;> first | exact h' Γ p' hΓ x | exact h'
/-- a statement that any stack bears -/
theorem execsC_any {st : Stmt} {rest : List Stmt} {Q : Flow → Shared → Prop} (h : wpAny M A (exec st env) (andThen M A rest env Q) (fun _ _ => False) s) : wpC M A (execs (st :: rest) env) Q s := execsC_cons (wpC_any h)
theorem then_next {rest : List Stmt} {Q : Flow → Shared → Prop} (h : wpC M A (execs rest env) Q s) : andThen M A rest env Q .next s := h
theorem then_ret {rest : List Stmt} {Q : Flow → Shared → Prop} {v : Value} (h : Q (.ret v) s) : andThen M A rest env Q (.ret v) s := h
theorem execsC_nil {Q : Flow → Shared → Prop} (h : Q .next s) : wpC M A (execs [] env) Q s := wpC_any (wpAny_execs_nil h)
theorem assignC {x : Str} {pos' pos : Pos} {value : Expr} {Q : Flow → Shared → Prop} (h : wpC M A (eval value env) (fun v s₁ => wpAny M A (storeName env x v) (fun _ => Q .next) (fun _ _ => False) s₁) s)
    (hs : swapsWith value (some (.Name x pos')) pos.line env = pure false) : wpC M A (exec (.Assign [.Name x pos'] value pos) env) Q s := fun Γ p hΓ c => by
  simp only [exec_Assign_Name env x pos' value pos hs, Sem.wp_bind', Sem.wp_cmd_standAt, Sem.wp_bindName, Sem.wp_pure']
  exact Sem.wp_mono M Γ _ (fun v _ s₁ h₁ => h₁ Γ _ hΓ) (fun _ _ _ h' => h') _ _ (h Γ _ hΓ c)
theorem exprC {e : Expr} {pos : Pos} {Q : Flow → Shared → Prop} (h : wpC M A (eval e env) (fun v s' => v = .none ∧ Q .next s') s)
    (hi : interactive env = false) (hs : swapsWith e none pos.line env = pure false) : wpC M A (exec (.Expr e pos) env) Q s := by
  rw [exec_Expr env e pos hi hs]
  refine wpC_then (wpAny_standAt (wpC_bind (wpC_mono h fun v s' h' => ?_)))
  obtain ⟨rfl, h'⟩ := h'
  rw [dropValue_plain (v := .none) (by intro a e; cases e)]
  exact wpC_pure h'
theorem ifC {test : Expr} {body orelse : List Stmt} {pos : Pos} {Q : Flow → Shared → Prop} (h : wpC M A (isTrue test env (eval test env)) (fun b s₂ => if b = true then wpC M A (execs body env) Q s₂ else wpC M A (execs orelse env) Q s₂) s) :
    wpC M A (exec (.If test body orelse pos) env) Q s := fun Γ p hΓ x => by
  simp only [exec_If, Sem.wp_bind', Sem.wp_cmd_standAt]
  refine Sem.wp_mono M Γ _ (fun b p₂ s₂ h₂ => ?_) (fun _ _ _ h' => h') _ _ (h Γ _ hΓ x)
  cases b
  · simp only [Bool.false_eq_true, if_false] at h₂ ⊢; exact h₂ Γ p₂ hΓ x
  · simp only [if_true] at h₂ ⊢; exact h₂ Γ p₂ hΓ x
theorem callWithC {P : Heap → Prop} {pos : Pos} {f : Value} {first : List Value} {Q : Value → Shared → Prop} {args : List (Bool × Sem Value)} {keywords : List (Option Str × Sem Value)} (hplain : (args.any (·.1) || keywords.any (·.1.isNone)) = false)
    (hk : ∀ h, P h → ∃ k, (k = Keeper.frame ∨ k = Keeper.machine ∨ k = Keeper.boundFrame) ∧ Looks M h (keeperOf f) k)
    (h : wpAny M A (evalArgs f true args keywords) (fun a s₁ => P s₁.heap ∧ wpC M A (call f (first ++ a.pos) a.kw) Q s₁) (fun _ _ => False) s) : wpC M A (callWith pos f first args keywords) Q s := by
  unfold callWith
  refine wpC_then (wpAny_holding (wpAny_mono h (fun a s₁ h₁ => wpC_then (wpAny_standAt ?_)) fun _ _ x => x))
  obtain ⟨k, hk', L⟩ := hk _ h₁.1
  simp only [hplain]
  refine wpC_then (L.here ?_)
  have tail : ∀ {t : Sem Value}, wpC M A t Q s₁ → wpC M A (t >>= fun r => holding [r] point >>= fun _ => pure r) Q s₁ :=
    fun ht => wpC_bind (wpC_mono ht fun r s₂ hr => wpC_then (wpAny_holding (wpAny_point (wpC_pure hr))))
  have marked (mk : Value) : wpC M A (callMarked mk f (first ++ a.pos) a.kw) Q s₁ := by unfold callMarked; exact wpC_keep h₁.2
  rcases hk' with rfl | rfl | rfl <;> dsimp only <;> first | exact tail h₁.2 | (split <;> first | exact tail h₁.2 | exact tail (marked _))
end
section
variable {prog : Program} {w : World} {A : Around} {s : Shared} {env : Env}
theorem codeC_builtin {id : String} {args : Args} {b : Builtin} {R : Flow → Shared → Prop} (hb : entryFor table id = some b)
    (h : wpC (model prog w) (A.under (.builtin id args)) (b args) (fun fin s' => match fin with | .done f => R f s' | .again c' => c'.quiet = true ∧ okCode c' = true ∧ codeC (model prog w) A c' R s') s) :
    codeC (model prog w) A (.builtin id args) R s := by
  refine codeC_tree ?_
  show wpC _ _ (match entryFor table id with | some b => b args | none => unsupported ((withoutEnding? id "#data").getD id)) _ s
  rw [hb]; exact h
theorem codeC_call_builtin {id : String} {args : Args} {R : Flow → Shared → Prop} (hq : (Code.builtin id args).quiet = true) (ok : okCode (.builtin id args) = true)
    (h : wpAny (model prog w) A.in1 (checkBuiltinCall id args) (fun _ s₁ => codeC (model prog w) A (.builtin id args) R s₁) (fun _ _ => False) s) : codeC (model prog w) A (.call (.builtin id) args) R s := by
  refine codeC_tree ?_
  show wpC _ A.in1 (do checkBuiltinCall id args; again (.builtin id args)) _ s
  exact wpC_then (wpAny_mono h (fun _ s₁ h₁ => wpC_pure ⟨hq, ok, h₁⟩) fun _ _ h' => h')
theorem codeC_func {body : List Stmt} {R : Flow → Shared → Prop} (h : wpC (model prog w) (A.deeper env) (execs body env) (fun f s' => R (.ret (match f with | .ret v => v | _ => .none)) s') s) :
    codeC (model prog w) A (.func body env) R s := by
  refine codeC_tree ?_
  show wpC _ (A.deeper env) (do point; match ← (execs body env).onRaise (leaving env) with | .ret v => ret v | _ => ret .none) _ s
  refine wpC_then (wpAny_point (wpC_bind (wpC_onRaise (wpC_mono h fun f s' h' => ?_))))
  cases f <;> exact wpC_pure h'
theorem codeC_call_def {R : Flow → Shared → Prop} {a : Addr} {o : Obj} {fd : FuncData} {body : List Stmt} {args : Args} {binds : List (Str × Value)}
    (hroom : A.depth < recursionLimit) (ho : s.heap.get? a = some o) (hdata : o.data = .func fd) (hlim : s.heap.NoLimit) (hcd : s.heap.CodeRec fd.code fd.qualname)
    (hbody : fd.body = .stmts body) (hbind : bindArgs fd args = pure binds)
    (hcell : ∀ x ∈ fd.scope.names, x.2 ≠ .cell) (hloc : ∀ x ∈ binds, fd.scope.names.lookup x.1 = some .local)
    (h : ∀ h₀, h₀.Ns s.heap.objs.size (fun x => binds.reverse.lookup x) → (∀ b o, s.heap.get? b = some o → h₀.get? b = some o) →
      wpC (model prog w) (A.deeper (callEnv fd s.heap.objs.size a)) (execs body (callEnv fd s.heap.objs.size a)) (fun f s' => R (.ret (match f with | .ret v => v | _ => .none)) s')
        { s with heap := h₀, toks := s.toks + binds.length })
    (hco : fd.scope.isCoroutine = false) (hgen : fd.scope.isGenerator = false) (hk : fd.scope.kind = .function) :
    codeC (model prog w) A (.call (.ref a) args) R s := by
  refine codeC_tree ?_
  show wpC _ A.in1 (callAny (.ref a) args) _ s
  simp only [callAny]
  refine wpC_then (wpAny_load ho ?_)
  obtain ⟨c, oc, vs, tq, hc, hoc, hdc, hq⟩ := hcd
  simp only [hdata, callFunction, hco, hgen, hbody, hc, hbind]
  refine wpC_then (m := field (.ref c) 1) (wpAny_field hoc hdc hq (wpC_then (wpAny_pure ?_)))
  refine wpC_then (wpAny_pure (wpC_then (wpAny_newFunctionEnv hcell hloc (fun h₀ hns₀ hsb₀ => wpC_then (wpAny_enterFrame (hlim.fresh _ hsb₀) hroom (wpC_pure ⟨rfl, rfl, codeC_func ?_⟩))) hk)))
  have := h h₀ hns₀ fun b o e => hsb₀.extBut b o (Nat.ne_of_lt (Heap.lt_size e)) (Heap.get?_push_of_some _ e)
  unfold callEnv at this
  rw [hc] at this
  exact this
theorem whileC {test : Expr} {body : List Stmt} {R : Flow → Shared → Prop} (I : Nat → Shared → Prop)
    (turn : ∀ n s, I n s → wpC (model prog w) A (isTrue test env (eval test env)) (fun b s₂ =>
        if b = true then wpC (model prog w) A (execs body env) (fun f s₃ => match f with
            | .next | .cont => ∃ m, m < n ∧ I m s₃
            | .brk => R .next s₃
            | .ret v => R (.ret v) s₃) s₂
        else R .next s₂) s) (n : Nat) : ∀ s, I n s → codeC (model prog w) A (.whileLoop test body [] env) R s := by
  induction n using Nat.strongRecOn with
  | _ n ih =>
  intro s hI
  refine codeC_tree ?_
  rw [Around.under_of_weight rfl]
  show wpC _ A ((whileTurn test body [] env).onRaise (fun x => do noteFrame x env; theTreesLotGoes x)) _ s
  refine wpC_onRaise ?_
  simp only [whileTurn]
  refine wpC_bind (wpC_mono (turn n s hI) fun b s₂ h₂ => ?_)
  cases b with
  | false =>
    simp only [Bool.false_eq_true, if_false] at h₂ ⊢
    exact wpC_bind (execsC_nil (wpC_pure h₂))
  | true =>
    simp only [if_true] at h₂ ⊢
    refine wpC_bind (wpC_mono h₂ fun f s₃ h₃ => ?_)
    cases f with
    | next => obtain ⟨m, hm, hi⟩ := h₃; exact wpC_pure ⟨rfl, rfl, ih m hm _ hi⟩
    | cont => obtain ⟨m, hm, hi⟩ := h₃; exact wpC_pure ⟨rfl, rfl, ih m hm _ hi⟩
    | brk => exact wpC_pure h₃
    | ret v => exact wpC_pure h₃
theorem forC {target : Expr} {it : Value} {body : List Stmt} {R : Flow → Shared → Prop} (I : Nat → Shared → Prop)
    (turn : ∀ n s, I n s → wpAny (model prog w) A (pyNext it) (fun r s₁ => match r with
      | none => R .next s₁
      | some v => wpAny (model prog w) A (letOwnedTupleGo target it v) (fun _ s₁' =>
          wpAny (model prog w) A (assign target env v) (fun _ s₂ => wpC (model prog w) A (execs body env) (fun f s₃ => match f with
            | .next | .cont => ∃ m, m < n ∧ I m s₃
            | .brk => R .next s₃
            | .ret v => R (.ret v) s₃) s₂) (fun _ _ => False) s₁') (fun _ _ => False) s₁) (fun _ _ => False) s) (n : Nat) :
    ∀ s, I n s → codeC (model prog w) A (.forLoop target it body [] env) R s := by
  induction n using Nat.strongRecOn with
  | _ n ih =>
  intro s hI
  refine codeC_tree ?_
  rw [Around.under_of_weight rfl]
  show wpC _ A ((forTurn target it body [] env).onRaise (fun x => do noteFrame x env; theTreesLotGoes x)) _ s
  refine wpC_onRaise ?_
  simp only [forTurn]
  refine wpC_then (wpAny_standAt (wpC_then (wpAny_onRaise (wpAny_mono (turn n s hI) (fun r s₁ h₁ => ?_) fun _ _ h' => h'.elim))))
  cases r with
  | none =>
    refine wpC_pure ⟨rfl, rfl, fun Γ p hc hΓ x => ?_⟩
    exact codeAny_block (wpAny_execs_nil (Q := fun f s' => okR R (.ok f) s') h₁) Γ p hc hΓ
  | some v =>
    refine wpC_then (wpAny_mono h₁ (fun _ s₁' h₁' => wpC_then (wpAny_mono h₁' (fun _ s₂ h₂ => wpC_bind (wpC_mono h₂ fun f s₃ h₃ => ?_)) fun _ _ h' => h')) fun _ _ h' => h')
    cases f with
    | next => obtain ⟨m, hm, hi⟩ := h₃; exact wpC_pure ⟨rfl, rfl, ih m hm _ hi⟩
    | cont => obtain ⟨m, hm, hi⟩ := h₃; exact wpC_pure ⟨rfl, rfl, ih m hm _ hi⟩
    | brk => exact wpC_pure h₃
    | ret v => exact wpC_pure h₃
end

/-! bytearray, where no such decoder stands -/
namespace BF
open PySem.F
theorem mro : mroOf (.type "bytearray") = pure [.type "bytearray", .type "object"] := by rw [mroOf_type]; kernel_rfl
theorem lookup_new : typeLookup (.type "bytearray") "__new__" = pure (some (.builtin "bytearray.__new__")) := by rw [typeLookup_type, builtinLookup_eq_fast]; kernel_rfl
theorem slot_init : Slot "bytearray" "__init__" "bytearray.__init__" :=
  .of (owner := "bytearray") (n := "__init__") (by rw [typeLookup_type, builtinLookup_eq_fast]; kernel_rfl) (by decide +kernel) (by decide +kernel) (by decide +kernel)
    (by first | exact .inl (by decide +kernel) | exact .inr (by decide +kernel)) (by rw [isSubtype_type]; kernel_rfl)
theorem slot_append : Slot "bytearray" "append" "bytearray.append" :=
  .of (owner := "bytearray") (n := "append") (by rw [typeLookup_type, builtinLookup_eq_fast]; kernel_rfl) (by decide +kernel) (by decide +kernel) (by decide +kernel)
    (by first | exact .inl (by decide +kernel) | exact .inr (by decide +kernel)) (by rw [isSubtype_type]; kernel_rfl)
theorem slot_extend : Slot "bytearray" "extend" "bytearray.extend" :=
  .of (owner := "bytearray") (n := "extend") (by rw [typeLookup_type, builtinLookup_eq_fast]; kernel_rfl) (by decide +kernel) (by decide +kernel) (by decide +kernel)
    (by first | exact .inl (by decide +kernel) | exact .inr (by decide +kernel)) (by rw [isSubtype_type]; kernel_rfl)
theorem called : TypeCalled "bytearray" "bytearray.__new__" "bytearray.__init__" :=
  ⟨by decide +kernel, by decide +kernel, ⟨_, _, mro⟩, madeBy_type mro lookup_new (by decide +kernel), by decide +kernel, by rw [isSubtype_type]; kernel_rfl, slot_init⟩
theorem typeCall : checkTypeCall "bytearray" ⟨[], []⟩ = pure () := by kernel_rfl
theorem newCall : checkBuiltinCall "bytearray.__new__" ⟨[.type "bytearray"], []⟩ = pure () := by kernel_rfl
theorem entry_new : entryFor table "bytearray.__new__" = some Builtin.«list.__new__» := entryFor_alias (id' := "list.__new__") (by rw [fastTable_eq_tree]; kernel_rfl) (by decide +kernel) (by decide +kernel) (by rw [fastTable_eq_tree]; kernel_rfl)
theorem entry_init : entryFor table "bytearray.__init__" = some Builtin.«bytearray.__init__» := by first | exact entryFor_of_fast (by kernel_rfl) | exact entryFor_of_tree (by kernel_rfl)
theorem entry_append : entryFor table "bytearray.append" = some Builtin.«bytearray.append» := by first | exact entryFor_of_fast (by kernel_rfl) | exact entryFor_of_tree (by kernel_rfl)
theorem entry_extend : entryFor table "bytearray.extend" = some Builtin.«bytearray.extend» := by first | exact entryFor_of_fast (by kernel_rfl) | exact entryFor_of_tree (by kernel_rfl)
theorem plain_attrs : PlainAttrs "bytearray" := ⟨⟨"bytearray.__getattribute__", by rw [typeLookup_type, builtinLookup_eq_fast]; kernel_rfl, by decide +kernel⟩, by rw [typeLookup_type, builtinLookup_eq_fast]; kernel_rfl⟩
theorem bind_init : Builtin.Bytes.bindOptional "bytearray.__init__" "bytearray" ["source", "encoding", "errors"] [] [] = pure [none, none, none] := by kernel_rfl
theorem sub_self : isSubtype (.type "bytearray") (.type "bytearray") = pure true := by rw [isSubtype_type]; kernel_rfl
end BF
abbrev holds? (self : Value) (x : Code × Pos) : Bool := match x with
    | (.builtin "bytearray.__contains__" ⟨v :: _, _⟩, _) | (.builtin "bytearray.__mod__" ⟨v :: _, _⟩, _)
    | (.builtin "bytearray.__rmod__" ⟨_ :: v :: _, _⟩, _) | (.builtin "_struct.pack_into.held" ⟨v :: _, _⟩, _) => Builtin.Bytes.sameRef v self
    | (.builtin "bytearray.find.held" ⟨_ :: _ :: held, _⟩, _) => held.any (Builtin.Bytes.sameRef self)
    | (.builtin id ⟨v :: _, _⟩, _) => Builtin.Bytes.sameRef v self && Builtin.Bytes.decodersThatHold.contains id
    | _ => false
theorem holds_id {self : Value} {id : String} {args : Args} {p : Pos} (h : id ∈ okIds) : holds? self (.builtin id args, p) = false := by
  obtain ⟨pos, kw⟩ := args
  simp only [okIds, List.mem_cons, List.not_mem_nil, or_false] at h
  cases pos with
  | nil => rcases h with rfl | rfl | rfl | rfl | rfl <;> kernel_rfl
  | cons v r =>
    have : ∀ b, b = false → (Builtin.Bytes.sameRef v self && b) = false := fun b e => by rw [e, Bool.and_false]
    rcases h with rfl | rfl | rfl | rfl | rfl <;> exact this (Builtin.Bytes.decodersThatHold.contains _) (by decide +kernel)
theorem any_ok {self : Value} {st : List (Code × Pos)} (hc : (st.all fun x => okCode x.1) = true) : st.any (holds? self) = false := by
  rw [List.any_eq_false]
  intro x hx
  have h1 : okCode x.1 = true := List.all_eq_true.mp hc x hx
  obtain ⟨c, p⟩ := x
  cases c with
  | builtin id args => rw [holds_id (List.contains_iff_mem.mp h1)]; exact Bool.false_ne_true
  | _ => exact Bool.false_ne_true
section
variable {prog : Program} {w : World} {A : Around} {s : Shared} {env : Env}
theorem exportedC {M : Model} {self : Value} {Q : Bool → Shared → Prop} (h : Q false s) : wpC M A (Builtin.Bytes.exported self) Q s := fun Γ p hΓ c => by
  show Sem.wp M Γ (stack >>= fun st => pure (st.any _)) _ _ p s
  rw [Sem.wp_bind']
  unfold stack
  rw [Sem.wp_stack]
  exact Eq.mpr (congrArg (fun b => Q b s) (any_ok (self := self) (st := (Γ.code, p) :: Γ.below) (by show (okCode Γ.code && _) = true; rw [c.1, c.2]; rfl))) h
end
theorem ok_split {α : Type} {M : Model} {c : Bool} {a b : Sem α} {A : Around} {s : Shared} {Q : α → Shared → Prop} (hc : c = false) (h : wpC M A b Q s) : wpC M A (if c = true then a else b) Q s := by
  subst hc; exact h
section
variable {prog : Program} {w : World} {A : Around} {s : Shared} {env : Env}
theorem owner_ba : ("bytearray.__new__".splitOn ".__new__").headD "" = "bytearray" := by simp +decide [String.splitOn, String.splitOnAux]
abbrev baObj (b : List UInt8) : Obj := { cls := .type "bytearray", data := .bytearray b.toArray }
theorem callC_slot {T : String} {name : Str} {id : String} {Bi : Builtin} {self : Value} {args : List Value} {Q : Value → Shared → Prop} (slot : Slot T name id) (entry : entryFor table id = some Bi) (ok : okIds.contains id = true)
    (hT : s.TypeIs self T) (hok : argsOk id ⟨self :: args, []⟩) (h : wpC (model prog w) A.in1 (Bi ⟨self :: args, []⟩) (fun fin s' => ∃ v, fin = .done (.ret v) ∧ Q v s') s) : wpC (model prog w) A (call (.builtin id) (self :: args)) Q s := by
  refine wpC_call (codeC_call_builtin (plainId_quiet slot.plain _) ok (slot.check _ _ _ _ _ _ _ _ hT hok (codeC_builtin entry ?_)))
  rw [Around.under_plainId slot.plain _]
  refine wpC_mono h fun fin s' x => ?_
  obtain ⟨v, rfl, q⟩ := x
  exact q
theorem code_ba_new {E : Value → Shared → Prop} {Q₁ : Value → Shared → Prop}
    (h : Q₁ (.ref s.heap.objs.size) { s with heap := s.heap.push { cls := .type "bytearray", data := .bytearray #[] } }) :
    codeAny (model prog w) A (.call (.builtin "bytearray.__new__") ⟨[.type "bytearray"], []⟩) (wants Q₁ E) s := by
  refine codeAny_of_tree ?_
  show wpAny _ A.in1 (do checkBuiltinCall "bytearray.__new__" ⟨[.type "bytearray"], []⟩; again (.builtin "bytearray.__new__" ⟨[.type "bytearray"], []⟩)) _ _ s
  have hp : plainId "bytearray.__new__" = true := by decide +kernel
  refine wpAny_bind (wpAny_of_eq BF.newCall (wpAny_pure ⟨plainId_quiet hp _, codeAny_builtin_stack BF.entry_new rfl fun p st => ?_⟩))
  rw [Around.under_plainId hp _]
  have hsub := BF.sub_self
  have hown : ("bytearray.__new__".splitOn ".__new__").headD "" = "bytearray" := owner_ba
  obtain ⟨hp, g, d, tk, os⟩ := s
  simp only [hown]
  wp_walk
  exact h
theorem init_is (a : Addr) : Builtin.«bytearray.__init__» ⟨[.ref a], []⟩ = (do
    if ← Builtin.Bytes.ownRelease (.ref a) then unsupported "bytearray.__init__:own-__release_buffer__-on-a-subclass" else
    if ← (Builtin.Bytes.exported (.ref a) <||> (do return (← Builtin.Bytes.exportsOf (.ref a)) > 0)) then
      (Builtin.Bytes.payload (.ref a) >>= fun x => if (!x.isEmpty) = true then (Builtin.Bytes.checkResize (.ref a) >>= fun _ => unsupported "bytearray.__init__:exported") else unsupported "bytearray.__init__:exported")
    else do
      Builtin.Bytes.write (.ref a) fun _ => #[]
      ret .none) := by kernel_rfl
theorem append_is (a : Addr) (x : Value) : Builtin.«bytearray.append» ⟨[.ref a, x], []⟩ = (do
    let c ← Builtin.Bytes.byteValue x
    Builtin.Bytes.checkResize (.ref a)
    Builtin.Bytes.write (.ref a) (·.push c)
    ret .none) := by kernel_rfl
theorem argsOk_init (a : Addr) : argsOk "bytearray.__init__" ⟨[.ref a], []⟩ := by kernel_rfl
theorem argsOk_append (a : Addr) (x : Value) : argsOk "bytearray.append" ⟨[.ref a, x], []⟩ := by kernel_rfl
theorem argsOk_extend (a : Addr) (x : Value) : argsOk "bytearray.extend" ⟨[.ref a, x], []⟩ := by kernel_rfl
theorem slot_own {M : Model} {E : Value → Shared → Prop} {v : Value} {T : String} {n : String} {id : String} {Q : Bool → Shared → Prop} (hT : s.TypeIs v T) (hl : typeLookup (.type T) (n : Str) = pure (some (.builtin id)))
    (he : id.endsWith ("." ++ n) = true) (hd : id.dropRight (n.length + 1) = T) (hs : isSubtype (.type T) (.type T) = pure true) (h : Q true s) : wpAny M A (Builtin.Bytes.slotIsOwn v n) Q E s := by
  unfold Builtin.Bytes.slotIsOwn
  refine wpAny_bind (wpAny_specialOf hT hl ?_)
  dsimp only
  rw [he, hd]
  exact wpAny_isInstance hT hs h
theorem own_release {M : Model} {E : Value → Shared → Prop} {a : Addr} {Q : Bool → Shared → Prop} (hT : s.TypeIs (.ref a) "bytearray") (h : Q false s) : wpAny M A (Builtin.Bytes.ownRelease (.ref a)) Q E s := by
  unfold Builtin.Bytes.ownRelease
  exact wpAny_bind (slot_own hT (by rw [typeLookup_type, builtinLookup_eq_fast]; kernel_rfl : typeLookup (.type "bytearray") "__release_buffer__" = pure (some (.builtin "bytearray.__release_buffer__"))) (by decide +kernel) (by decide +kernel) BF.sub_self (wpAny_pure h))
theorem notHeld {M : Model} {a : Addr} {b : List UInt8} {Q : Bool → Shared → Prop} (ho : s.heap.get? a = some (baObj b)) (h : Q false s) : wpC M A (Builtin.Bytes.exported (.ref a) <||> (do return (← Builtin.Bytes.exportsOf (.ref a)) > 0)) Q s := by
  refine wpC_bind (exportedC ?_)
  refine wpC_any ?_
  show wpAny M A (Builtin.Bytes.exportsOf (.ref a) >>= fun n => pure (decide (n > 0))) _ _ s
  unfold Builtin.Bytes.exportsOf
  exact wpAny_bind (wpAny_bind (wpAny_load ho (wpAny_pure (wpAny_pure h))))
theorem write_ba {M : Model} {E : Value → Shared → Prop} {a : Addr} {b : List UInt8} {f : Array UInt8 → Array UInt8} {Q : Unit → Shared → Prop} (ho : s.heap.get? a = some (baObj b)) (hs : (f b.toArray).size ≤ sizeLine)
    (h : ∀ h', h'.get? a = some { cls := .type "bytearray", data := .bytearray (f b.toArray) } → Heap.SameBut a s.heap h' → Q () { s with heap := h' }) : wpAny M A (Builtin.Bytes.write (.ref a) f) Q E s := by
  show wpAny M A (updateBytearray a f) Q E s
  unfold updateBytearray
  refine wpAny_bind (wpAny_load ho (wpAny_bind (wpAny_update ho ?_)))
  have hu : (s.heap.update a (Obj.mapBytearray f)).get? a = some { cls := .type "bytearray", data := .bytearray (f b.toArray) } := Heap.get?_update_self _ ho rfl
  refine wpAny_lookBehind hu ?_ (h _ hu (Heap.SameBut.update ..))
  show (if (f b.toArray).size > sizeLine then some _ else none) = none
  rw [if_neg (Nat.not_lt.mpr hs)]
theorem callC_ba {Q : Value → Shared → Prop} (h : ∀ a h', h'.get? a = some (baObj []) → s.heap.get? a = none → s.heap.StaysIn h' → Q (.ref a) { s with heap := h' }) : wpC (model prog w) A (call (.type "bytearray") []) Q s := by
  obtain ⟨c, tl, hmro⟩ := BF.called.mro
  have hmade := BF.called.made
  have hsub := BF.called.sub
  have h1 := BF.called.notType
  have h2 := BF.called.canCreate
  have hct := BF.typeCall
  refine wpC_call (codeC_tree ?_)
  show wpC _ _ (callAny (.type "bytearray") _) _ _
  refine wpC_pure ⟨Code.quiet_builtin _ (by decide +kernel), by decide +kernel, codeC_builtin F.entry_type_call ?_⟩
  rw [Around.under_plain (weight_type_call_type "bytearray" [] []) rfl]
  unfold Builtin.«type.__call__»
  dsimp only
  refine ok_split h1 (ok_split h2 (wpC_then (wpAny_of_eq hct (wpC_then (wpAny_of_eq hmro (ok_split rfl (wpC_then (wpAny_of_eq hmade ?_))))))))
  dsimp only
  refine wpC_then (wpAny_pure (wpC_then (wpAny_holding (wpAny_call (codeAny_mono (code_ba_new (E := fun _ _ => False) (Q₁ := fun v s' => v = .ref s.heap.objs.size ∧ s' = { s with heap := s.heap.push (baObj []) }) ⟨rfl, rfl⟩) fun r s₁ hr => ?_)))))
  cases r with
  | error e => exact hr
  | ok fl =>
    cases fl with
    | ret obj =>
      obtain ⟨rfl, rfl⟩ := hr
      have hT : Shared.TypeIs { s with heap := s.heap.push (baObj []) } (.ref s.heap.objs.size) "bytearray" := ⟨_, Heap.get?_push_size _ rfl, rfl⟩
      refine wpC_then (wpAny_isInstance hT hsub (ok_split rfl (wpC_bind (wpC_holding ?_))))
      unfold callSpecial?
      refine wpC_then (wpAny_specialOf hT BF.slot_init.lookup ?_)
      refine wpC_holding (wpC_then (wpAny_of_eq (BF.slot_init.bind _) (wpC_bind (callC_slot BF.slot_init BF.entry_init (by decide +kernel) hT ?_ ?_))))
      · exact argsOk_init _
      · show wpC _ _ (Builtin.«bytearray.__init__» ⟨[.ref s.heap.objs.size], []⟩) _ _
        rw [init_is]
        refine wpC_then (own_release hT (ok_split rfl (wpC_bind (notHeld (Heap.get?_push_size _ rfl) (ok_split rfl ?_)))))
        refine wpC_then (write_ba (Heap.get?_push_size _ rfl) (by decide) fun h' hu hs => wpC_pure ⟨_, rfl, wpC_pure (wpC_pure (h _ h' hu (Heap.StaysIn.fresh fun _ _ e => e) fun b o e => ?_))⟩)
        rw [hs.2 b (Nat.ne_of_lt (Heap.lt_size e))]
        exact Heap.get?_push_of_some _ e
    | _ => exact hr.elim
theorem byte_value {M : Model} {E : Value → Shared → Prop} {c : UInt8} {n : Int} {t : Tok} {Q : UInt8 → Shared → Prop} (hn : n = (c.toNat : Nat)) (h : Q c s) : wpAny M A (Builtin.Bytes.byteValue (.int n t)) Q E s := by
  have hc : c.toNat < 256 := c.toNat_lt
  have e1 : (decide (n < 0) || decide (n ≥ 256)) = false := by rw [Bool.or_eq_false_iff, decide_eq_false_iff_not, decide_eq_false_iff_not]; omega
  have e2 : n.toNat.toUInt8 = c := by rw [hn]; simp
  show wpAny M A (if (decide (n < 0) || decide (n ≥ 256)) = true then _ else pure n.toNat.toUInt8) Q E s
  rw [e1, e2]
  exact wpAny_pure h
theorem callC_append {a : Addr} {b : List UInt8} {c : UInt8} {n : Int} {t : Tok} {Q : Value → Shared → Prop} (ho : s.heap.get? a = some (baObj b)) (hn : n = (c.toNat : Nat)) (hl : b.length < 100000)
    (h : ∀ h', h'.get? a = some (baObj (b ++ [c])) → Heap.SameBut a s.heap h' → Q .none { s with heap := h' }) : wpC (model prog w) A (call (.builtin "bytearray.append") [.ref a, .int n t]) Q s := by
  refine callC_slot BF.slot_append BF.entry_append (by decide +kernel) ⟨_, ho, rfl⟩ (argsOk_append _ _) ?_
  rw [append_is]
  refine wpC_then (byte_value hn (wpC_bind ?_))
  unfold Builtin.Bytes.checkResize
  refine wpC_bind (notHeld ho (ok_split rfl (wpC_pure (wpC_then (write_ba ho ?_ fun h' hu hs => wpC_pure ⟨_, rfl, h h' ?_ hs⟩)))))
  · rw [Array.size_push, List.size_toArray]; unfold sizeLine; omega
  · rw [hu, List.push_toArray]
theorem take_bytes {M : Model} {E : Value → Shared → Prop} {more : Array UInt8} {t : Tok} {Q : Option (Array UInt8 × Option Value) → Shared → Prop} (h : Q (some (more, none)) s) : wpAny M A (Builtin.Bytes.takeBufferQuiet? "bytearray.extend" (.bytes more t) 0) Q E s := by
  have hT : Shared.TypeIs s (.bytes more t) "bytes" := rfl
  have hb : typeLookup (.type "bytes") "__buffer__" = pure (some (.builtin "bytes.__buffer__")) := by rw [typeLookup_type, builtinLookup_eq_fast]; kernel_rfl
  have hr : typeLookup (.type "bytes") "__release_buffer__" = pure none := by rw [typeLookup_type, builtinLookup_eq_fast]; kernel_rfl
  have own : ∀ {Q : Bool → Shared → Prop}, Q true s → wpAny M A (Builtin.Bytes.slotIsOwn (.bytes more t) "__buffer__") Q (fun _ _ => False) s := fun {Q} h => by
    exact slot_own hT hb (by decide +kernel) (by decide +kernel) F.bm_sub h
  have rel : ∀ {Q : Bool → Shared → Prop}, Q false s → wpAny M A (Builtin.Bytes.ownRelease (.bytes more t)) Q (fun _ _ => False) s := fun {Q} h => by
    unfold Builtin.Bytes.ownRelease Builtin.Bytes.slotIsOwn
    exact wpAny_bind (wpAny_bind (wpAny_specialOf hT hr (wpAny_pure (wpAny_pure h))))
  unfold Builtin.Bytes.takeBufferQuiet?
  refine wpAny_bind (wpAny_attempt (wpAny_mono (E := fun _ _ => False) (Q := fun r s' => r = some (more, none) ∧ s' = s) ?_ (fun r s' x => by obtain ⟨rfl, rfl⟩ := x; exact wpAny_pure h) fun _ _ x => x.elim))
  unfold Builtin.Bytes.takeBuffer?
  refine wpAny_bind (wpAny_specialOf hT hb (wpAny_bind (own (wpAny_bind (wpAny_specialOf hT hb ?_)))))
  unfold Builtin.Bytes.buffer?
  refine wpAny_bind (wpAny_bind (wpAny_specialOf hT hb (wpAny_bind (own (wpAny_bind (wpAny_specialOf hT hb ?_))))))
  exact wpAny_bind (rel (wpAny_pure (wpAny_pure ⟨rfl, rfl⟩)))
theorem payload_ba {M : Model} {E : Value → Shared → Prop} {a : Addr} {b : List UInt8} {Q : Array UInt8 → Shared → Prop} (ho : s.heap.get? a = some (baObj b)) (h : Q b.toArray s) : wpAny M A (Builtin.Bytes.payload (.ref a)) Q E s := by
  unfold Builtin.Bytes.payload Builtin.Bytes.payload?
  exact wpAny_bind (wpAny_bind (wpAny_load ho (wpAny_pure (wpAny_pure h))))
theorem callC_extend {a : Addr} {b more : List UInt8} {t : Tok} {Q : Value → Shared → Prop} (ho : s.heap.get? a = some (baObj b)) (hl : b.length + more.length < 100000)
    (h : ∀ h', h'.get? a = some (baObj (b ++ more)) → Heap.SameBut a s.heap h' → Q .none { s with heap := h' }) : wpC (model prog w) A (call (.builtin "bytearray.extend") [.ref a, .bytes more.toArray t]) Q s := by
  refine callC_slot BF.slot_extend BF.entry_extend (by decide +kernel) ⟨_, ho, rfl⟩ (argsOk_extend _ _) ?_
  have hb : typeLookup (.type "bytes") "__buffer__" = pure (some (.builtin "bytes.__buffer__")) := by rw [typeLookup_type, builtinLookup_eq_fast]; kernel_rfl
  unfold Builtin.«bytearray.extend»
  rw [show selfAndOne "bytearray.extend" ⟨[.ref a, .bytes more.toArray t], []⟩ = pure (.ref a, .bytes more.toArray t) by kernel_rfl]
  refine wpC_then (wpAny_pure (wpC_then (wpAny_specialOf (T := "bytes") rfl hb ?_)))
  show wpC _ _ (rule "bytearray.extend.bytes-like" >>= _) _ _
  refine wpC_then (wpAny_rule (wpC_then (payload_ba ho (wpC_then (take_bytes ?_)))))
  show wpC _ _ (if (!more.toArray.isEmpty) = true then (Builtin.Bytes.checkResize (.ref a) >>= fun _ => Builtin.Bytes.write (.ref a) (· ++ more.toArray) >>= fun _ => ret .none) else (Builtin.Bytes.write (.ref a) (· ++ more.toArray) >>= fun _ => ret .none)) _ _
  have last : wpC (model prog w) A.in1 (Builtin.Bytes.write (.ref a) (· ++ more.toArray) >>= fun _ => ret .none) (fun fin s' => ∃ v, fin = .done (.ret v) ∧ Q v s') s := by
    refine wpC_then (write_ba ho ?_ fun h' hu hs => wpC_pure ⟨_, rfl, h h' ?_ hs⟩)
    · rw [List.append_toArray, List.size_toArray, List.length_append]; unfold sizeLine; omega
    · rw [hu, List.append_toArray]
  split
  · unfold Builtin.Bytes.checkResize
    exact wpC_bind (wpC_bind (notHeld ho (ok_split rfl (wpC_pure last))))
  · exact last
theorem call_bytes_ba {E : Value → Shared → Prop} {a : Addr} {b : List UInt8} {Q : Value → Shared → Prop} (ho : s.heap.get? a = some (baObj b)) (hl : b.length < 100000) (h : ∀ t k, Q (.bytes b.toArray t) { s with toks := k }) : wpAny (model prog w) A (call (.type "bytes") [.ref a]) Q E s := by
  have hT : s.TypeIs (.ref a) "bytearray" := ⟨_, ho, rfl⟩
  have nb : typeLookup (.type "bytearray") "__bytes__" = pure none := by rw [typeLookup_type, builtinLookup_eq_fast]; kernel_rfl
  have ni : typeLookup (.type "bytearray") "__index__" = pure none := by rw [typeLookup_type, builtinLookup_eq_fast]; kernel_rfl
  have hb : typeLookup (.type "bytearray") "__buffer__" = pure (some (.builtin "bytearray.__buffer__")) := by rw [typeLookup_type, builtinLookup_eq_fast]; kernel_rfl
  refine callType_codes (Q₁ := fun obj s₁ => s₁.TypeIs obj "bytes" ∧ Q obj s₁) F.bm_called (F.bm_typeCall _) F.entry_object_init ?_ fun obj s₁ h₁ => ?_
  · refine codeAny_of_tree ?_
    show wpAny _ A.in1.in1 (do checkBuiltinCall "bytes.__new__" ⟨[.type "bytes", .ref a], []⟩; again (.builtin "bytes.__new__" ⟨[.type "bytes", .ref a], []⟩)) _ _ s
    refine wpAny_bind (wpAny_of_eq (F.bm_newCall _) (wpAny_pure ⟨plainId_quiet F.bm_plain _, codeAny_builtin F.bm_entry ?_⟩))
    rw [Around.under_plainId F.bm_plain _]
    unfold Builtin.«bytes.__new__»
    refine wpAny_bind (wpAny_of_eq (a := true) rfl (bm_if_false rfl (wpAny_bind (wpAny_of_eq F.bm_sub (bm_if_false rfl (wpAny_bind (wpAny_of_eq (F.bm_bind _) (wpAny_bind (wpAny_of_eq (a := ()) rfl (wpAny_bind (wpAny_of_eq (a := ()) rfl ?_)))))))))))
    refine bm_if_false rfl (wpAny_bind (wpAny_specialOf hT nb (wpAny_bind (wpAny_bind ?_))))
    show wpAny _ _ (load a >>= _) _ _ _
    refine wpAny_bind (wpAny_load ho (wpAny_pure (wpAny_pure (bm_if_false rfl (wpAny_bind (wpAny_specialOf hT ni (bm_if_true rfl ?_)))))))
    first
      | show wpAny _ _ (Builtin.Bytes.buffer? "bytes.__new__" (.ref a) true >>= _) _ _ _
      | (refine wpAny_bind ?_; show wpAny _ _ (Builtin.Bytes.buffer? "bytes.__new__" (.ref a) true >>= _) _ _ _)
    refine wpAny_bind ?_
    unfold Builtin.Bytes.buffer?
    refine wpAny_bind (wpAny_specialOf hT hb (wpAny_bind (slot_own hT hb (by decide +kernel) (by decide +kernel) BF.sub_self ?_)))
    refine wpAny_bind (wpAny_specialOf hT hb (wpAny_bind (own_release hT (wpAny_bind (payload_ba ho (wpAny_pure ?_))))))
    refine wpAny_bind (wpAny_rule (wpAny_bind (wpAny_mkBytes (wpAny_pure ?_) (by rw [List.size_toArray]; unfold sizeLine; omega))))
    exact ⟨rfl, h _ _⟩
  · exact ⟨h₁.1, F.args_object_init_2 obj _, object_init_meets F.bm_called.init.lookup F.bm_called.made (by decide) prog w A.in1 _ s₁ ⟨h₁.1, rfl, h₁.2⟩⟩
end

/-! the head, for a walk that holds where no such decoder stands -/
theorem caller_clean : Clean (⟨.builtin "claim.caller" {}, none, none, [], none⟩ : Ctx) := ⟨by decide +kernel, rfl⟩
abbrev WalkC (q : Program) (loose : List Str) (XP : (Str → Option Value) → Heap → Prop) (YP : World → Heap → Prop) (r : RowW) (d : DefRec) (kwd : List (Str × Expr)) : Prop :=
  ∀ (w : World) (s₀ s₁ : Shared) (mg mb : Str → Option Value), Ground q loose r.records XP w s₀ mg mb s₁.heap → YP w s₁.heap → ∀ (a : Addr) (o : Obj) (pm cd doc dV kV : Value), s₁.heap.get? a = some o →
    o.data = .func { Calls.docDef d.name d.params d.body d.scope pm cd doc with defaults := dV, kwdefaults := kV } → s₁.heap.CodeRec cd d.name → Dflts mg s₁.heap d.params kwd dV kV → mg d.name = some (.ref a) → s₁.gens = #[] →
    ∀ (args : List WData) (vals : List Value) (as : List Addr), r.claim.pre args = true → WData.layableAll args = true → ReadsAllW r.records (classAt s₀.heap) s₁.heap vals args as → WellAll w.params s₁.heap vals args → (∀ a ∈ as, (a == sysModules) = false) →
      wpC (model r.prog w) callerA (call (.ref a) vals) (fun v s' => GoodWG r.claim (classAt s₀.heap) (ExcName.means s₀.heap) args s₁ (.ok (.ret v)) s') s₁
abbrev callTree (name : Str) (vs : List Value) : Sem Fin := do match ← nsGet mainNs name with
  | some f => do ret (← PySem.call f vs)
  | none => unsupported "claim.caller:no-such-global"
def EndsC (r : OpenRow) (s s₁ : Shared) (args : List WData) (vs : List Value) (x : Result) (s' : Shared) : Prop :=
  r.claim.Ends s args vs s₁ x s' ∧ s'.os = s.os ∧ (r.writes = true → namesKept r.claim.prog r.keeps s.heap s'.heap ∧ ∀ x ∈ r.claim.records, ∀ a, classAt s.heap x.1 = some a → recordClass s'.heap a x.1 (x.2.map (·.1)) = true)
/-- as LeftO; the other name makes open_top take the whole run at once: its file is then a sixth as large -/
abbrev LeftM (p q : Program) (loose : List Str) (Xt : Shared → Bool) {α : Type} (Yf : Shared → α) (Ya : World → α) (N : Nat) : Prop := LeftO p q loose Xt Yf Ya N
theorem PySem.W.holds_open {r : OpenRow} {q : Program} {loose : List Str} {Xt : Shared → Bool} {XP : (Str → Option Value) → Heap → Prop} {α : Type} {Yf : Shared → α} {Ya : World → α} {YP : World → Heap → Prop} {d : DefRec} {kwd : List (Str × Expr)} {N : Nat}
    (left : LeftM r.prog q loose Xt Yf Ya N) (hY : ∀ w s, Yf s = Ya w → YP w s.heap) (hYk : ∀ w h h', YP w h → (∀ b o, h.get? b = some o → h'.get? b = some o) → YP w h')
    (hX : ∀ s, Xt s = true → XP (s.heap.nsMap mainGlobals) s.heap) (hXk : ∀ mg h h', XP mg h → (∀ b o, h.get? b = some o → h'.get? b = some o) → XP mg h')
    (hdef : defOf q r.name = some (d, kwd)) (hp : r.prog.theDef r.name = some (d.params, d.body, d.scope)) (hk : kwWritten? d.params.kwonlyargs d.params.kw_defaults = some kwd) (hRf : ∀ s, Xt s = true → RecFacts r.records s.heap) (hwr : (!r.writes || r.records.isEmpty) = true)
    (k1 : r.wellSaid = true) (ok : (chainsOk q && opensWell r.prog && (frees r.toRowW && r.within.isEmpty)) = true) (hb : r.prog.bare) (hw : r.toRowW.promised)
    (walk : WalkC q loose XP YP r.toRowW d kwd) : r.Holds := by
  refine ⟨k1, hw, ?_⟩
  obtain ⟨ok, k5⟩ := Bool.and_eq_true_iff.mp ok
  obtain ⟨hch, o1⟩ := Bool.and_eq_true_iff.mp ok
  obtain ⟨k5, k6⟩ := Bool.and_eq_true_iff.mp k5
  obtain ⟨hsame, hu, ha, hap, hm⟩ := frees_parts k5
  refine ⟨⟨hb, o1, by show r.makers.map _ = []; rw [hm]; rfl⟩, hw.witness, fun w => ⟨(left.behind hX hch w).1, fun s' hs' => ?_⟩⟩
  obtain ⟨s₀, hf, hg0, s, hT, hz, hgens, hg, G00, y⟩ := (left.behind (XP := fun mg h => XP mg h ∧ RecFacts r.records h) (fun s hs => ⟨hX s hs, hRf s hs⟩) hch w).2 s' hs'
  have G0 : Ground q loose [] XP w s (s.heap.nsMap mainGlobals) (s.heap.nsMap builtinsNs) s.heap := ⟨G00.T, G00.B, G00.D, G00.TE, G00.TD, G00.W, G00.X.1, G00.cls, G00.has, G00.apart, G00.once, G00.K⟩
  have RF := G00.X.2
  have hT' := hT
  refine ⟨s₀, hf, hg0, s, hT, fun n hn => ?_, RF.1, RF.2.1, ?_⟩
  · obtain rfl : n = r.name := by split at hn <;> simp_all
    exact pinned_of_view hg G0 hdef hp hk
  have hgens : s.gens = #[] := Array.eq_empty_of_size_eq_zero (beq_iff_eq.mp hgens)
  have G : Ground q loose r.records XP w s _ _ s.heap := RF.ground G0
  intro args hpre hlay ord hord
  obtain ⟨⟨vs, s₁⟩, hlaid⟩ := Option.isSome_iff_exists.mp (layAllW_isSome (P := w.params) (ord := ord) G.has args r.args s (pre_splitW hpre).1)
  have keeps := layAllW_keeps _ _ _ hlaid
  have hal := layAllW_rest _ _ _ hlaid
  obtain ⟨as, hrd, hin, hold⟩ := reads_layAllW hord _ _ _ hlaid hlay s₁.heap (fun _ _ e => e)
  have L : Laid r.records w s s₁ args vs as := ⟨⟨ord, hord, hlaid⟩, hrd, hin, hold, keeps, hal.1.trans hgens, hal.2.2.1⟩
  have G₁ := G.keeps hXk keeps
  obtain ⟨a, o, pm, cd, doc, dV, kV, h1, h2, h3, h4, h5⟩ := G₁.fn hdef
  have run := walk w s s₁ _ _ G₁ (hYk _ _ _ (hY w s y) keeps) a o pm cd doc dV kV h2 h3 h4 h5 (defOf_name hdef ▸ h1) L.gens args vs as hpre hlay L.reads L.well (L.low G.low)
  have hi := ident_freeW hu ha hap
  have hwi : r.claim.within = [] := List.isEmpty_iff.mp k6
  have hwp : Sem.wp (model r.prog w) ⟨.builtin "claim.caller" {}, none, none, [], none⟩ (callTree r.name vs) (Sem.finPost (model r.prog w) ⟨.builtin "claim.caller" {}, none, none, [], none⟩ (fun x s' => EndsC r s s₁ args vs x s' ∧ leftWithCleanup s'.gens = false)) (fun e _ s' => EndsC r s s₁ args vs (.error e) s' ∧ leftWithCleanup s'.gens = false) default s₁ := by
    have : wpC (model r.prog w) callerA (callTree r.name vs) (fun fin s' => ∃ f, fin = .done f ∧ EndsC r s s₁ args vs (.ok f) s' ∧ leftWithCleanup s'.gens = false) s₁ := by
      refine wpC_then (wpAny_nsGet G₁.T.g ?_)
      rw [h1]
      refine wpC_bind (wpC_mono run fun v s' g => wpC_pure ⟨_, rfl, ?_, ?_⟩)
      · have z := g.laid (c := r.claim) hsame hwi hi L
        exact ⟨z.1, z.2.1, fun q => ⟨namesKept_of hT' hg r.keeps keeps g.2.1.old, noTable hwr q⟩⟩
      · exact leftWithCleanup_false_of_bare (g.laid (c := r.claim) hsame hwi hi L).2.2
    refine Sem.wp_mono _ _ _ (fun fin p' s' h' => ?_) (fun _ _ _ h' => h'.elim) _ _ (this _ default caller_in caller_clean)
    obtain ⟨f, rfl, hf⟩ := h'
    exact hf
  obtain ⟨n, x, s₂, s₃, hs, hn, hfo, hcase, hos, hkp⟩ := wp_halts_full (M := model r.prog w) (R := EndsC r s s₁ args vs) (Shared.asleep_of_life hal.2.2.2 hz) hwp
  obtain ⟨eh, _, _, eo, _⟩ := Shared.forget_eq hfo
  have hlife : s₃.heap.life = s.heap.life := (runN_life _ _ _ hn).trans hal.2.2.2
  refine ⟨vs, s₁, hlaid, n, _, s₃, hs, ?_, (fun _ i x hx => by rw [hgens] at hx; simp at hx), ?_, by rw [hlife], ?_⟩
  · rcases hcase.congr eh with ⟨v, rfl, d1, d2, d3, d4, d5⟩ | ⟨e, ob, cls, rfl, d1, d2, d3, d4, d5⟩
    · exact .inl ⟨v, rfl, d1, d2, d3, fun b o y _ => d4 b o y, d5⟩
    · exact .inr ⟨e, ob, cls, rfl, d1, d2, d3, d4, fun b o y _ => d5 b o y⟩
  · rw [eh]; exact hkp
  · exact Shared.rest_eq (eo.trans hos)

open_top hd for PySem.Challenge.rw_nb0162_01
section
open PySem.Builtin.UnicodeEncodeError
theorem ude_new : ExcNewFacts "UnicodeDecodeError" "UnicodeDecodeError.__new__" where
  ends := by decide +kernel
  owner := by decide +kernel
  entry := entryFor_alias (id' := "BaseException.__new__") (by rw [fastTable_eq_tree]; kernel_rfl) (by first | rfl | decide +kernel) (by decide +kernel) (by rw [fastTable_eq_tree]; kernel_rfl)
  sub := by rw [isSubtype_type]; kernel_rfl
  notAttr := by rw [isSubtype_type]; kernel_rfl
  notName := by rw [isSubtype_type]; kernel_rfl
  made := by kernel_rfl
theorem ude_slot : Slot "UnicodeDecodeError" "__init__" "UnicodeDecodeError.__init__" := .of (owner := "UnicodeDecodeError") (n := "__init__") (by rw [typeLookup_type, builtinLookup_eq_fast]; kernel_rfl) (by decide +kernel) (by decide +kernel) (by decide +kernel)
    (by first | exact .inl (by decide +kernel) | exact .inr (by decide +kernel)) (by rw [isSubtype_type]; kernel_rfl)
theorem ude_entry : entryFor table "UnicodeDecodeError.__init__" = some Builtin.«UnicodeDecodeError.__init__» := entryFor_of_tree (by kernel_rfl)
theorem ude_notType : (Value.type "UnicodeDecodeError" == Value.type "type") = false := by decide +kernel
theorem ude_canMake : ((Manifest.find? "UnicodeDecodeError").bind fun x => List.findSome? (fun t => (Manifest.find? t).bind fun b =>
    if b.noNew = true then some true else if (b.attrs.any fun x => x.fst == "__new__") = true then some false else none) x.mro).getD false = false := by kernel_rfl
theorem ude_noVector (args : Args) : checkTypeCall "UnicodeDecodeError" args = pure () := by kernel_rfl
theorem ude_mro : ∃ m, mroOf (.type "UnicodeDecodeError") = pure m ∧ m.isEmpty = false := ⟨[.type "UnicodeDecodeError", .type "UnicodeError", .type "ValueError", .type "Exception", .type "BaseException", .type "object"], by rw [mroOf_type]; kernel_rfl, rfl⟩
theorem ude_madeBy : Bind.madeBy (.type "UnicodeDecodeError") = pure (some "UnicodeDecodeError.__new__") := by kernel_rfl
theorem ude_newOk (rest : List Value) : checkBuiltinCall "UnicodeDecodeError.__new__" ⟨.type "UnicodeDecodeError" :: rest, []⟩ = pure () := by kernel_rfl
theorem ude_split : splitId "UnicodeDecodeError.__init__" = some ("UnicodeDecodeError", "__init__") := by kernel_rfl
theorem ude_kind : builtinKind "UnicodeDecodeError.__init__" = some .slot := by kernel_rfl
theorem ude_row : Manifest.signature? "UnicodeDecodeError.__init__" = some ⟨.hand, "wrapper __init__", "", .self, []⟩ := by kernel_rfl
variable {prog : Program} {w : World} {A : Around} {E : Value → Shared → Prop}
theorem ude_check {M : Model} {self : Value} {rest : List Value} {Q : Unit → Shared → Prop}
    {hp : Heap} {g : Array GenState} {d : Drawn} {tk : Nat} {os : OsState} (hT : Shared.TypeIs ⟨hp, g, d, tk, os⟩ self "UnicodeDecodeError") (h : Q () ⟨hp, g, d, tk, os⟩) :
    wpAny M A (checkBuiltinCall "UnicodeDecodeError.__init__" ⟨self :: rest, []⟩) Q E ⟨hp, g, d, tk, os⟩ := by
  have hsub := ude_new.sub
  simp only [checkBuiltinCall, ude_kind, ude_split, ude_row]
  wp_walk
  exact h
/-- the exception on the way through its __init__ -/
def Ex (e : Addr) (h : Heap) : Prop := ∃ ob t0 own, h.get? e = some ob ∧ ob.cls = .type "UnicodeDecodeError" ∧ ob.data = .fields (#[t0, .none, .none, .none, .bool false, .none] ++ own) ∧ (own = #[] ∨ ∃ a b i ti j tj r, own = #[a, b, .int i ti, .int j tj, r])
/-- the exception made -/
def Ex5 (e : Addr) (h : Heap) : Prop := ∃ od sl t0 a b i ti j tj r, h.get? e = some ⟨.type "UnicodeDecodeError", od, .fields #[t0, .none, .none, .none, .bool false, .none, a, b, .int i ti, .int j tj, r], sl⟩
theorem Ex5.ex {e : Addr} {h : Heap} (x : Ex5 e h) : Ex e h := by
  obtain ⟨od, sl, t0, a, b, i, ti, j, tj, r, he⟩ := x
  exact ⟨_, t0, _, he, rfl, rfl, .inr ⟨a, b, i, ti, j, tj, r, rfl⟩⟩
structure NewUDE (h h' : Heap) (e : Addr) : Prop where
  keeps : ∀ b o, h.get? b = some o → h'.get? b = some o
  new : h.get? e = none
  there : Ex5 e h'
def KeptBut (e : Addr) (h h' : Heap) : Prop := ∀ b o, b ≠ e → h.get? b = some o → h'.get? b = some o
theorem members_any {M : Model} {s : Shared} {e : Addr} {Q : Members → Shared → Prop} (X : Ex e s.heap) (h : ∀ m, Q m s) : wpAny M A (members (.ref e)) Q E s := by
  obtain ⟨ob, t0, own, he, hc, hd, ho⟩ := X
  unfold members
  refine wpAny_bind (wpAny_fieldsOf he hd ?_)
  rcases ho with rfl | ⟨a, b, i, ti, j, tj, r, rfl⟩
  · exact wpAny_pure (h _)
  · exact wpAny_pure (h _)
theorem setMembers_any {M : Model} {s : Shared} {h₀ : Heap} {e : Addr} {m : Members} {Q : Unit → Shared → Prop} (X : Ex e s.heap) (K : KeptBut e h₀ s.heap) (h : ∀ h', Ex5 e h' → KeptBut e h₀ h' → Q () { s with heap := h' }) : wpAny M A (setMembers (.ref e) m) Q E s := by
  obtain ⟨ob, t0, own, he, hc, hd, ho⟩ := X
  unfold setMembers
  have hx : ((#[t0, .none, .none, .none, .bool false, .none] ++ own : Array Value)).extract 0 6 = #[t0, .none, .none, .none, .bool false, .none] := by
    rcases ho with rfl | ⟨a, b, i, ti, j, tj, r, rfl⟩ <;> rfl
  refine wpAny_updateFields he hd (h _ ?_ ?_) ?_
  · have hd' := Obj.data_mapFields hd fun vs => vs.extract 0 6 ++ #[m.encoding, m.object, rawInt m.start, rawInt m.stop, m.reason]
    have hg := Heap.get?_update_self _ he (Obj.isFreed_of_fields hd')
    rw [hx] at hd'
    have hc' := (Obj.cls_mapFields ob fun vs => vs.extract 0 6 ++ #[m.encoding, m.object, rawInt m.start, rawInt m.stop, m.reason]).trans hc
    generalize Obj.mapFields (fun vs => vs.extract 0 6 ++ #[m.encoding, m.object, rawInt m.start, rawInt m.stop, m.reason]) ob = ob' at *
    obtain ⟨c', od', dt', sl'⟩ := ob'
    dsimp only at hd' hc'
    subst hd' hc'
    exact ⟨od', sl', t0, _, _, _, _, _, _, _, hg⟩
  · intro b o hb q
    rw [Heap.get?_update_other _ _ (Ne.symm hb)]
    exact K b o hb q
  · rw [hx]; show 11 ≤ sizeLine + 3; unfold sizeLine; omega
abbrev argT (enc reason : Str) (obj : Array UInt8) (i j : Int) (t1 t2 t3 t4 t5 : Tok) : Obj := { cls := .type "tuple", data := .seq [.str enc t1, .bytes obj t2, .int i t3, .int j t4, .str reason t5].toArray }
theorem size_arg {M : Model} {s : Shared} {id : String} {i : Int} {t : Tok} {Q : Int → Shared → Prop} (hi : 0 ≤ i ∧ i < 1000) (h : Q i s) : wpAny M A (sizeArgument id (.int i t)) Q E s := by
  unfold sizeArgument
  refine wpAny_bind (wpAny_pure (a := i) ?_)
  dsimp only
  rw [if_neg (by simp; omega)]
  exact wpAny_pure h
theorem ude_init {e : Addr} {t0 : Value} {enc reason : Str} {obj : Array UInt8} {i j : Int} {t1 t2 t3 t4 t5 : Tok} (hi : 0 ≤ i ∧ i < 1000) (hj : 0 ≤ j ∧ j < 1000)
    {Q : Fin → Shared → Prop} {hp : Heap} {g : Array GenState} {d : Drawn} {tk : Nat} {os : OsState} (he : hp.get? e = some { cls := .type "UnicodeDecodeError", data := .fields #[t0, .none, .none, .none, .bool false, .none] })
    (h : ∀ h', Ex5 e h' → KeptBut e hp h' → Q (.done (.ret .none)) ⟨h', g, d, tk, os⟩) :
    wpAny (model prog w) A (Builtin.«UnicodeDecodeError.__init__» ⟨[.ref e, .str enc t1, .bytes obj t2, .int i t3, .int j t4, .str reason t5], []⟩) Q E ⟨hp, g, d, tk, os⟩ := by
  unfold Builtin.«UnicodeDecodeError.__init__»
  refine wpAny_bind ?_
  unfold beginInit
  show wpAny _ _ (field (.ref e) 0 >>= _) _ _ _
  refine wpAny_bind (wpAny_field he rfl rfl ?_)
  refine wpAny_bind (wpAny_newTuple ?_ (by show 5 ≤ sizeLine; unfold sizeLine; omega))
  have he1 := Heap.get?_push_of_some (h := hp) (argT enc reason obj i j t1 t2 t3 t4 t5) he
  refine wpAny_bind (wpAny_setField he1 rfl (by show 0 < 6; omega) (wpAny_bind (wpAny_letGo ?_)))
  have X0 : Ex e ((hp.push (argT enc reason obj i j t1 t2 t3 t4 t5)).update e (Obj.mapFields (·.setIfInBounds 0 (.ref hp.objs.size)))) :=
    ⟨_, .ref hp.objs.size, #[], Heap.get?_update_self _ he1 rfl, rfl, rfl, .inl rfl⟩
  have K0 : KeptBut e hp ((hp.push (argT enc reason obj i j t1 t2 t3 t4 t5)).update e (Obj.mapFields (·.setIfInBounds 0 (.ref hp.objs.size)))) := by
    intro b o hb q
    rw [Heap.get?_update_other _ _ (Ne.symm hb)]
    exact Heap.get?_push_of_some _ q
  show wpAny _ _ (members (.ref e) >>= _) _ _ ⟨(hp.push (argT enc reason obj i j t1 t2 t3 t4 t5)).update e (Obj.mapFields (·.setIfInBounds 0 (.ref hp.objs.size))), g, d, tk, os⟩
  generalize (hp.push (argT enc reason obj i j t1 t2 t3 t4 t5)).update e (Obj.mapFields (·.setIfInBounds 0 (.ref hp.objs.size))) = h0 at *
  refine wpAny_bind (members_any X0 fun m1 => wpAny_bind (setMembers_any X0 K0 fun h1 Y1 K1 => have X1 := Y1.ex; wpAny_bind (wpAny_letGo ?_)))
  refine wpAny_bind (members_any X1 fun m1 => wpAny_bind (setMembers_any X1 K1 fun h2 Y2 K2 => have X2 := Y2.ex; wpAny_bind (wpAny_letGo ?_)))
  refine wpAny_bind (members_any X2 fun m1 => wpAny_bind (setMembers_any X2 K2 fun h3 Y3 K3 => have X3 := Y3.ex; wpAny_bind (wpAny_letGo ?_)))
  refine wpAny_pure ?_
  show wpAny _ _ (strArgument _ 1 (.str enc t1) >>= _) _ _ ⟨h3, g, d, tk, os⟩
  refine wpAny_bind (wpAny_pure ?_)
  refine wpAny_bind ?_
  unfold initRange
  refine wpAny_bind (size_arg hi ?_)
  refine wpAny_bind (members_any X3 fun m1 => wpAny_bind (setMembers_any X3 K3 fun h4 Y4 K4 => have X4 := Y4.ex; ?_))
  refine wpAny_bind (size_arg hj ?_)
  refine wpAny_bind (members_any X4 fun m1 => setMembers_any X4 K4 fun h5 Y5 K5 => have X5 := Y5.ex; ?_)
  show wpAny _ _ (strArgument _ 5 (.str reason t5) >>= _) _ _ ⟨h5, g, d, tk, os⟩
  refine wpAny_bind (wpAny_pure ?_)
  refine wpAny_bind (wpAny_pure ?_)
  refine wpAny_bind (wpAny_pure ?_)
  show wpAny _ _ (members (.ref e) >>= _) _ _ ⟨h5, g, d, tk, os⟩
  refine wpAny_bind (members_any X5 fun m1 => wpAny_bind (setMembers_any X5 K5 fun h6 X6 K6 => ?_))
  exact wpAny_pure (h h6 X6 K6)
theorem ude_type_call {enc reason : Str} {obj : Array UInt8} {i j : Int} {t1 t2 t3 t4 t5 : Tok} (hi : 0 ≤ i ∧ i < 1000) (hj : 0 ≤ j ∧ j < 1000) {Q : Fin → Shared → Prop}
    {hp : Heap} {g : Array GenState} {d : Drawn} {tk : Nat} {os : OsState}
    (h : ∀ h' e, NewUDE hp h' e → Q (.done (.ret (.ref e))) ⟨h', g, d, tk, os⟩) :
    wpAny (model prog w) A (Builtin.«type.__call__» ⟨.type "UnicodeDecodeError" :: [.str enc t1, .bytes obj t2, .int i t3, .int j t4, .str reason t5], []⟩) Q E ⟨hp, g, d, tk, os⟩ := by
  have hnt := ude_notType
  have hcan := ude_canMake
  have hchk := ude_noVector ⟨[.str enc t1, .bytes obj t2, .int i t3, .int j t4, .str reason t5], []⟩
  obtain ⟨m, hmro, hne⟩ := ude_mro
  have hmade := ude_madeBy
  wp_walk
  refine codeAny_call_builtin_code (Code.quiet_builtin _ (by decide +kernel)) (wpAny_of_eq (ude_newOk _) ?_)
  refine codeAny_exc_new ude_new ?_ (by show 5 ≤ sizeLine; unfold sizeLine; omega)
  show wpAny _ _ _ _ _ _
  have hget : ((hp.push (argT enc reason obj i j t1 t2 t3 t4 t5)).push
      { cls := .type "UnicodeDecodeError", data := .fields #[.ref hp.objs.size, .none, .none, .none, .bool false, .none] }).get? (hp.objs.size + 1) = some
      { cls := .type "UnicodeDecodeError", data := .fields #[.ref hp.objs.size, .none, .none, .none, .bool false, .none] } := by heap_get
  refine wpAny_bind (wpAny_isInstance ⟨_, hget, rfl⟩ ude_new.sub ?_)
  wp_step
  refine wpAny_bind (wpAny_holding (wpAny_callSpecial?_slot ⟨_, hget, rfl⟩ ude_slot (wpAny_call (codeAny_call_builtin ude_slot.plain ude_entry (ude_check ⟨_, hget, rfl⟩ ?_)))))
  refine ude_init hi hj hget fun h' X K => ?_
  refine wpAny_pure (h h' _ ⟨fun b o hb => ?_, Heap.get?_none_of_le (Nat.le_succ _), X⟩)
  exact K b o (Nat.ne_of_lt (Nat.lt_succ_of_lt (Heap.lt_size hb))) (Heap.get?_push_of_some _ (Heap.get?_push_of_some _ hb))
theorem ude_call {enc reason : Str} {obj : Array UInt8} {i j : Int} {t1 t2 t3 t4 t5 : Tok} (hi : 0 ≤ i ∧ i < 1000) (hj : 0 ≤ j ∧ j < 1000) {Q : Value → Shared → Prop}
    {hp : Heap} {g : Array GenState} {d : Drawn} {tk : Nat} {os : OsState}
    (h : ∀ h' e, NewUDE hp h' e → Q (.ref e) ⟨h', g, d, tk, os⟩) :
    wpAny (model prog w) A (call (.type "UnicodeDecodeError") [.str enc t1, .bytes obj t2, .int i t3, .int j t4, .str reason t5]) Q E ⟨hp, g, d, tk, os⟩ := by
  refine wpAny_call (codeAny_of_tree ?_)
  show wpAny _ _ (again (.builtin "type.__call__" ⟨.type "UnicodeDecodeError" :: [.str enc t1, .bytes obj t2, .int i t3, .int j t4, .str reason t5], []⟩)) _ _ _
  exact wpAny_pure ⟨Code.quiet_builtin _ (by decide +kernel), codeAny_builtin entry_typeCall (ude_type_call hi hj fun h' e hm => h h' e hm)⟩
theorem ude_raise : ExcRaiseFacts "UnicodeDecodeError" where
  isExc := by rw [isSubtype_type]; kernel_rfl
  plainMeta := by kernel_rfl
theorem unchain_entry : entryFor table "proto.unchain" = some Builtin.«proto.unchain» := entryFor_of_tree (by kernel_rfl)
/-- a raise in a clause: the exception in hand becomes the context -/
theorem ude_raise_in {env : Env} {c : Addr} {x : Sem Value} {s : Shared} {Q : Flow → Shared → Prop} (hh : A.handled = some (.ref c))
    (h : wpAny (model prog w) A x (fun v s₁ => ∃ e, v = .ref e ∧ Ex5 e s₁.heap ∧ c ≠ e ∧ (∃ oc vc, s₁.heap.get? c = some oc ∧ oc.data = .fields vc ∧ vc[2]? = some .none) ∧
      ∀ h', KeptBut e s₁.heap h' → (∃ ob vs a0, h'.get? e = some ob ∧ ob.cls = .type "UnicodeDecodeError" ∧ ob.data = .fields vs ∧ vs[0]? = some a0 ∧ vs[1]? = some .none) → E (.ref e) { s₁ with heap := h' }) E s) :
    wpAny (model prog w) A (raiseStmt env (some x) none) Q E s := by
  unfold raiseStmt
  refine wpAny_bind (wpAny_mono h (fun v s₁ h₁ => ?_) fun _ _ x => x)
  obtain ⟨e, rfl, ⟨od, sl, t0, a, b, i, ti, j, tj, r, he⟩, hce, ⟨oc, vc, hc, hcd, hc2⟩, hE⟩ := h₁
  obtain ⟨hp, g, d, tk, os⟩ := s₁
  have hsub := ude_raise.isExc
  have hmeta := ude_raise.plainMeta
  repeat (first | refine wpAny_loadPart he ?_ | wp_step)
  unfold raiseNew
  refine wpAny_bind (wpAny_handled ?_)
  rw [hh]
  dsimp only
  have hne : (Value.ref c != Value.ref e) = true := by simp [hce]
  rw [if_pos hne]
  refine wpAny_bind (wpAny_holding (wpAny_runValue (codeAny_builtin unchain_entry ?_)))
  unfold Builtin.«proto.unchain»
  refine wpAny_bind (wpAny_field hc hcd hc2 ?_)
  refine wpAny_pure ?_
  show wpAny _ _ (setField (.ref e) 2 (.ref c) >>= _) _ _ _
  refine wpAny_bind (wpAny_setField he rfl (by show 2 < 11; omega) ?_)
  refine wpAny_throw (hE _ ?_ ⟨_, _, t0, Heap.get?_update_self _ he rfl, rfl, rfl, rfl, rfl⟩)
  intro b o hb q
  rw [Heap.get?_update_other _ _ (Ne.symm hb)]
  exact q
end


abbrev TopF (mean : ExcName → Option Value) (mg mb : Str → Option Value) (h : Heap) : Prop := Top hd.view_39 (looseW hd.view_39 []) mean mg mb h
abbrev Ar (dp un : Nat) (gd : Option (List Code)) (outer : List Env) : Around := { handled := none, depth := dp, frames := some outer, guards := gd, units := un }

/-- a fact that the arithmetic is not to see -/
structure Hide (P : Prop) : Prop where
  out : P
/-- room for lv more frames -/
def Room (dp un lv : Nat) : Prop := dp + lv < recursionLimit ∧ un + 20 * lv < cLine
theorem Room.down {dp un lv lv' : Nat} (h : Room dp un lv) (e : Nat.ble (lv' + 1) lv = true) : Room (dp + 1) (un + 3) lv' := by
  have := Nat.le_of_ble_eq_true e
  unfold Room at *; omega
theorem Room.here {dp un lv : Nat} (h : Room dp un lv) : dp < recursionLimit := by unfold Room at h; omega
/-- what a call of a def does: it keeps all that stood, and gives back what R says -/
def Tells (w : World) (mean : ExcName → Option Value) (mg mb : Str → Option Value) (lv : Nat) (f : Addr) (vs : List Value) (pre : Heap → Prop) (R : Value → Heap → Heap → Prop) : Prop :=
  ∀ (dp un : Nat) (gd : Option (List Code)) (outer : List Env) (base : Heap) (s : Shared) (Q E : Value → Shared → Prop),
    Below (Ar dp un gd outer) base outer s.heap → (hd.heap_39 w.params).In s.heap → TopF mean mg mb s.heap → pre s.heap → Room dp un lv →
    (∀ v h' tk', s.heap.StaysIn h' → R v s.heap h' → Q v { s with heap := h', toks := tk' }) →
    wpAny (model PySem.Challenge.rw_nb0162_01.row.prog w) (Ar dp un gd outer) (call (.ref f) vs) Q E s

/-- a frame's names laid over others -/
def ov : List (Str × Value) → (Str → Option Value) → Str → Option Value
  | [], u, y => u y
  | (x, v) :: r, u, y => if y = x then some v else ov r u y
def Has (m : Str → Option Value) (l : List (Str × Value)) : Prop := ∀ p ∈ l, m p.1 = some p.2
theorem ov_has {m : Str → Option Value} : ∀ {l : List (Str × Value)}, Has m l → ∀ y, m y = ov l m y
  | [], _, _ => rfl
  | (x, v) :: r, h, y => by
    unfold ov
    by_cases e : y = x
    · rw [if_pos e, e]; exact h (x, v) (.head _)
    · rw [if_neg e]; exact ov_has (fun p hp => h p (.tail _ hp)) y
theorem Fr.eqv {h₀ h : Heap} {L : Addr} {m m' : Str → Option Value} (F : Fr h₀ L h m) (e : ∀ x, m x = m' x) : Fr h₀ L h m' := by
  have : m = m' := funext e
  subst this; exact F
theorem Fr.ov {h₀ h : Heap} {L : Addr} {m : Str → Option Value} {l : List (Str × Value)} (F : Fr h₀ L h m) (e : Has m l) : Fr h₀ L h (ov l m) := Fr.eqv F (ov_has e)
theorem Has.nil {m : Str → Option Value} : Has m [] := fun _ h => nomatch h
theorem Has.cons {m : Str → Option Value} {x : Str} {v : Value} {l : List (Str × Value)} (h : m x = some v) (r : Has m l) : Has m ((x, v) :: l) := fun p hp => by
  rcases List.mem_cons.mp hp with rfl | hp
  · exact h
  · exact r p hp
theorem lookup_mem {x : Str} {v : Value} : ∀ {l : List (Str × Value)}, (l.map (·.1)).Nodup → (x, v) ∈ l → l.lookup x = some v
  | (y, u) :: r, nd, h => by
    rw [List.map_cons, List.nodup_cons] at nd
    rcases List.mem_cons.mp h with e | hr
    · cases e; simp
    · have : (x == y) = false := by
        refine beq_eq_false_iff_ne.mpr fun e => nd.1 ?_
        subst e; exact List.mem_map.mpr ⟨_, hr, rfl⟩
      rw [List.lookup_cons, this]; exact lookup_mem nd.2 hr
def apartB : List (Str × Value) → Bool
  | [] => true
  | (x, _) :: r => (r.all fun p => decide (p.1 ≠ x)) && apartB r
theorem apartB_nodup : ∀ {l : List (Str × Value)}, apartB l = true → (l.map (·.1)).Nodup
  | [], _ => .nil
  | (x, v) :: r, h => by
    unfold apartB at h
    rw [Bool.and_eq_true] at h
    rw [List.map_cons, List.nodup_cons]
    refine ⟨fun hm => ?_, apartB_nodup h.2⟩
    obtain ⟨p, hp, e⟩ := List.mem_map.mp hm
    exact of_decide_eq_true (List.all_eq_true.mp h.1 p hp) e
theorem binds_has {binds : List (Str × Value)} (nd : (binds.map (·.1)).Nodup) : Has (fun x => binds.reverse.lookup x) binds := fun p hp =>
  lookup_mem (by rw [List.map_reverse]; exact List.pairwise_reverse.mpr (nd.imp Ne.symm)) (List.mem_reverse.mpr hp)
theorem lookup_has {binds l : List (Str × Value)} (h : (l.all fun p => decide (binds.reverse.lookup p.1 = some p.2)) = true) : Has (fun x => binds.reverse.lookup x) l := fun p hp => of_decide_eq_true (List.all_eq_true.mp h p hp)

/-- a value up to its token -/
inductive Dv where
  | i (n : Int)
  | b (x : Bool)
  | s (x : Str)
  | y (x : Array UInt8)
  | r (a : Addr)
  | non
  | val (w : Value)
@[reducible] def Dv.v : Dv → Tok → Value
  | .i k, t => .int k t
  | .b x, _ => .bool x
  | .s x, t => .str x t
  | .y x, t => .bytes x t
  | .r a, _ => .ref a
  | .non, _ => .none
  | .val w, _ => w
def vals : List (Str × Dv) → (Nat → Tok) → List (Str × Value)
  | [], _ => []
  | (x, d) :: r, T => (x, d.v (T 0)) :: vals r fun k => T (k + 1)
def HasD (m : Str → Option Value) (l : List (Str × Dv)) : Prop := ∀ p ∈ l, ∃ t, m p.1 = some (p.2.v t)
theorem HasD.nil {m : Str → Option Value} : HasD m [] := fun _ h => nomatch h
theorem HasD.cons {m : Str → Option Value} {x : Str} {d : Dv} {l : List (Str × Dv)} (h : ∃ t, m x = some (d.v t)) (r : HasD m l) : HasD m ((x, d) :: l) := fun p hp => by
  rcases List.mem_cons.mp hp with rfl | hp
  · exact h
  · exact r p hp
theorem HasD.vals {m : Str → Option Value} : ∀ {l : List (Str × Dv)}, HasD m l → ∃ T, Has m (vals l T)
  | [], _ => ⟨fun _ => 0, Has.nil⟩
  | (x, d) :: r, h => by
    obtain ⟨t, e⟩ := h (x, d) (.head _)
    obtain ⟨T, hT⟩ := HasD.vals fun p hp => h p (.tail _ hp)
    exact ⟨fun k => match k with | 0 => t | k + 1 => T k, Has.cons e hT⟩

def WPost {σ : Type} (h₀ : Heap) (L : Addr) (s : Shared) (I : σ → Prop) (led : σ → List (Addr × Obj)) (loc : σ → List (Str × Dv)) (μ : σ → Nat) (Q : Flow → Shared → Prop) (c : σ) (f : Flow) (s₃ : Shared) : Prop :=
  match f with
  | .ret v => Q (.ret v) s₃
  | .brk => Q .next s₃
  | _ => ∃ (c' : σ) (h' : Heap) (tk : Nat) (m' : Str → Option Value) (news' : List (Addr × Obj)), s₃ = { s with heap := h', toks := tk } ∧ Fr h₀ L h' m' ∧ News h₀ L h' news' ∧ (∀ p ∈ led c', p ∈ news') ∧ HasD m' (loc c') ∧ I c' ∧ μ c' < μ c
theorem wpost {σ : Type} {h₀ : Heap} {L : Addr} {s : Shared} {I : σ → Prop} {led : σ → List (Addr × Obj)} {loc : σ → List (Str × Dv)} {μ : σ → Nat} {Q : Flow → Shared → Prop} {c : σ} {h' : Heap} {tk : Nat} {m' : Str → Option Value} {news' : List (Addr × Obj)}
    (c' : σ) (F : Fr h₀ L h' m') (N : News h₀ L h' news') (hn : ∀ p ∈ led c', p ∈ news') (hm : HasD m' (loc c')) (hI : I c') (hμ : μ c' < μ c) : WPost h₀ L s I led loc μ Q c .next { s with heap := h', toks := tk } :=
  ⟨c', h', tk, m', news', rfl, F, N, hn, hm, hI, hμ⟩
theorem while_rule {prog : Program} {w : World} {A : Around} {E : Value → Shared → Prop} {Q : Flow → Shared → Prop} {s : Shared} {env : Env} {h₀ : Heap} {L : Addr} {σ : Type} {test : Expr} {body : List Stmt} {pos : Pos} {m₀ : Str → Option Value} {news : List (Addr × Obj)}
    (I : σ → Prop) (led : σ → List (Addr × Obj)) (loc : σ → List (Str × Dv)) (μ : σ → Nat) (c₀ : σ)
    (F : Fr h₀ L s.heap m₀) (N : News h₀ L s.heap news) (hm : HasD m₀ (loc c₀)) (hn : ∀ p ∈ led c₀, p ∈ news) (hI : I c₀)
    (turn : ∀ (c : σ) (u : Str → Option Value) (T : Nat → Tok) (h : Heap) (tk : Nat), I c → Fr h₀ L h (ov (vals (loc c) T) u) → News h₀ L h (led c) →
      wpAny (model prog w) A (isTrue test env (eval test env)) (fun b s₂ =>
        if b = true then wpAny (model prog w) A (execs body env) (WPost h₀ L s I led loc μ Q c) E s₂ else Q .next s₂) E { s with heap := h, toks := tk })
    (hE : PassesOwn (model prog w) A env E) :
    wpAny (model prog w) A (exec (.While test body [] pos) env) Q E s := by
  refine While_inv2 (fun n m nx => ∃ c : σ, nx = led c ∧ μ c = n ∧ HasD m (loc c) ∧ I c) F (fun p hp => N p (hn p hp)) ⟨c₀, rfl, rfl, hm, hI⟩ ?_ hE
  rintro n m₁ nx h tk F₁ N₁ ⟨c, rfl, rfl, hm', hI'⟩
  obtain ⟨T, hT⟩ := hm'.vals
  refine wpAny_mono (turn c m₁ T h tk hI' (Fr.ov F₁ hT) N₁) (fun b s₂ p => ?_) fun _ _ x => x
  cases b with
  | false => simpa using p
  | true =>
    simp only [if_true] at p ⊢
    refine wpAny_mono p (fun f s₃ q => ?_) fun _ _ x => x
    cases f with
    | ret v => exact q
    | brk => exact q
    | next =>
      obtain ⟨c', h', tk', m', news', rfl, F', N', hn', hm9, hI9, hμ9⟩ := q
      exact ⟨h', tk', m', led c', μ c', rfl, F', fun p hp => N' p (hn' p hp), hμ9, c', rfl, rfl, hm9, hI9⟩
    | cont =>
      obtain ⟨c', h', tk', m', news', rfl, F', N', hn', hm9, hI9, hμ9⟩ := q
      exact ⟨h', tk', m', led c', μ c', rfl, F', fun p hp => N' p (hn' p hp), hμ9, c', rfl, rfl, hm9, hI9⟩

theorem enter {w : World} {mean : ExcName → Option Value} {mg mb : Str → Option Value} {dp un : Nat} {gd : Option (List Code)} {outer : List Env} {base : Heap} {s : Shared} {Q E : Value → Shared → Prop}
    {name qual : Str} {params : Arguments} {body : List Stmt} {scope : Scope} {dV kV doc pm cdv ct oc : Value} {an od : Option Addr} {osl : Array (Option Value)} {f : Addr} {vs : List Value} (binds : List (Str × Value))
    (B : Below (Ar dp un gd outer) base outer s.heap) (X : (hd.heap_39 w.params).In s.heap) (T : TopF mean mg mb s.heap) (hroom : dp < recursionLimit)
    (ho : (hd.heap_39 w.params).lookup f = some ⟨oc, od, .func (fnOf name qual params body scope dV kV doc pm an cdv ct), osl⟩) (hcd : codeIn (hd.heap_39 w.params) cdv qual = true)
    (hbind : bindArgs (fnOf name qual params body scope dV kV doc pm an cdv ct) ⟨vs, []⟩ = pure binds) (hloc : (binds.all fun x => decide (scope.names.lookup x.1 = some .local)) = true)
    (hbl : apartB binds = true)
    (h : ∀ L h₁ tk u, Fr s.heap L h₁ (ov binds u) → News s.heap L h₁ [] →
      wpAny (model PySem.Challenge.rw_nb0162_01.row.prog w) (Ar (dp + 1) (un + 3) gd (envOf qual scope L f cdv :: outer)) (execs body (envOf qual scope L f cdv))
        (fun fl s' => Q (match fl with | .ret v => v | _ => .none) s') (fun _ _ => False)
        { s with heap := h₁, toks := tk })
    (hcell : ∀ x ∈ scope.names, x.2 ≠ .cell) (hco : scope.isCoroutine = false) (hgen : scope.isGenerator = false) (hk : scope.kind = .function) :
    wpAny (model PySem.Challenge.rw_nb0162_01.row.prog w) (Ar dp un gd outer) (call (.ref f) vs) Q E s := by
  refine wpAny_call (codeAny_call_def (fd := fnOf name qual params body scope dV kV doc pm an cdv ct) (body := body) (binds := binds) hroom (X _ _ ho) rfl T.nolimit (codeRec_of X hcd) rfl (BindsTo.of_eq hbind) hcell (locs hloc) (fun h₁ hns hk₁ => ?_) hco hgen hk)
  exact wpAny_mono (h s.heap.objs.size h₁ _ _ (Fr.ov ⟨hns, hk₁, Nat.le_refl _⟩ (binds_has (apartB_nodup hbl))) News.nil) (fun _ _ x => x) (fun _ _ x => x.elim)

theorem below_here {A₀ : Around} {base h₀ h : Heap} {outer : List Env} {dp un : Nat} {gd : Option (List Code)} {L a : Addr} {m : Str → Option Value} {name : Str} {scope : Scope} {cd : Value}
    (B : Below A₀ base outer h₀) (F : Fr h₀ L h m) (hk : scope.kind = .function) : Below (Ar dp un gd (envOf name scope L a cd :: outer)) base (envOf name scope L a cd :: outer) h :=
  let B' := B.push (name := name) (a := a) (cd := cd) F hk
  ⟨rfl, B'.stays, B'.frames⟩
theorem fr_stays {h₀ h h' : Heap} {L : Addr} {m : Str → Option Value} (F : Fr h₀ L h m) (st : h.StaysIn h') : Fr h₀ L h' m :=
  ⟨F.ns.keeps st, fun b o e => st b o (F.keep b o e), F.above⟩
theorem news_stays {h₀ h h' : Heap} {L : Addr} {news : List (Addr × Obj)} (N : News h₀ L h news) (st : h.StaysIn h') : News h₀ L h' news :=
  fun p hp => ⟨st _ _ (N p hp).1, (N p hp).2⟩
theorem news_new {h₀ h h' : Heap} {L a : Addr} {o : Obj} {m : Str → Option Value} {news : List (Addr × Obj)} (F : Fr h₀ L h m) (N : News h₀ L h news) (st : h.StaysIn h') (ha : h'.get? a = some o) (hn : h.get? a = none) : News h₀ L h' ((a, o) :: news) := by
  intro p hp
  rcases List.mem_cons.mp hp with rfl | hp
  · obtain ⟨oL, _, _, hL, _⟩ := F.ns
    refine ⟨ha, fun e => ?_, ?_⟩
    · dsimp only at e; subst e; rw [hL] at hn; cases hn
    · cases q : h₀.get? a with
      | none => rfl
      | some o' => rw [F.keep _ _ q] at hn; cases hn
  · exact news_stays N st p hp

theorem Tells.use {w : World} {mean : ExcName → Option Value} {mg mb : Str → Option Value} {lv : Nat} {f : Addr} {vs : List Value} {pre : Heap → Prop} {R : Value → Heap → Heap → Prop}
    {A₀ : Around} {base h₀ : Heap} {outer : List Env} {dp un : Nat} {gd : Option (List Code)} {L a : Addr} {m : Str → Option Value} {name : Str} {scope : Scope} {cd : Value} {news : List (Addr × Obj)} {s : Shared} {Q E : Value → Shared → Prop}
    (C : Tells w mean mg mb lv f vs pre R) (B : Below A₀ base outer h₀) (F : Fr h₀ L s.heap m) (X : (hd.heap_39 w.params).In h₀) (N : News h₀ L s.heap news) (T : TopF mean mg mb h₀) (hk : scope.kind = .function) (hp : pre s.heap)
    (hd : Room dp un lv)
    (k : ∀ v h' tk', Fr h₀ L h' m → News h₀ L h' news → R v s.heap h' → s.heap.StaysIn h' → Q v { s with heap := h', toks := tk' }) :
    wpAny (model PySem.Challenge.rw_nb0162_01.row.prog w) (Ar dp un gd (envOf name scope L a cd :: outer)) (call (.ref f) vs) Q E s :=
  C dp un gd _ base s Q E (below_here B F hk) (X.keeps F.keep) (T.keeps F.keep) hp hd fun v h' tk' st r => k v h' tk' (fr_stays F st) (news_stays N st) r st

theorem Tells.useI {w : World} {mean : ExcName → Option Value} {mg mb : Str → Option Value} {lv : Nat} {f : Addr} {vs : List Value} {pre : Heap → Prop} {x : Int}
    {A₀ : Around} {base h₀ : Heap} {outer : List Env} {dp un : Nat} {gd : Option (List Code)} {L a : Addr} {m : Str → Option Value} {name : Str} {scope : Scope} {cd : Value} {news : List (Addr × Obj)} {s : Shared} {Q E : Value → Shared → Prop}
    (C : Tells w mean mg mb lv f vs pre (fun v _ _ => ∃ t, v = .int x t)) (B : Below A₀ base outer h₀) (F : Fr h₀ L s.heap m) (X : (hd.heap_39 w.params).In h₀) (N : News h₀ L s.heap news) (T : TopF mean mg mb h₀) (hk : scope.kind = .function) (hp : pre s.heap)
    (hd : Room dp un lv)
    (k : ∀ t h' tk', Fr h₀ L h' m → News h₀ L h' news → Q (.int x t) { s with heap := h', toks := tk' }) :
    wpAny (model PySem.Challenge.rw_nb0162_01.row.prog w) (Ar dp un gd (envOf name scope L a cd :: outer)) (call (.ref f) vs) Q E s :=
  C.use B F X N T hk hp hd fun v h' tk' F' N' r _ => by obtain ⟨t, e⟩ := r; subst e; exact k t h' tk' F' N'
theorem ne_of_new {h₀ h : Heap} {L a : Addr} {news : List (Addr × Obj)} (N : News h₀ L h news) (hn : h.get? a = none) : ∀ p ∈ news, p.1 ≠ a := fun p hp e => by
  have := (N p hp).1; rw [e, hn] at this; cases this
theorem Tells.useR {w : World} {mean : ExcName → Option Value} {mg mb : Str → Option Value} {lv : Nat} {f : Addr} {vs : List Value} {pre : Heap → Prop} {O : Obj → Prop}
    {A₀ : Around} {base h₀ : Heap} {outer : List Env} {dp un : Nat} {gd : Option (List Code)} {L a : Addr} {m : Str → Option Value} {name : Str} {scope : Scope} {cd : Value} {news : List (Addr × Obj)} {s : Shared} {Q E : Value → Shared → Prop}
    (C : Tells w mean mg mb lv f vs pre (fun v h h' => ∃ a o, v = .ref a ∧ h.get? a = none ∧ h'.get? a = some o ∧ O o)) (B : Below A₀ base outer h₀) (F : Fr h₀ L s.heap m) (X : (hd.heap_39 w.params).In h₀) (N : News h₀ L s.heap news) (T : TopF mean mg mb h₀) (hk : scope.kind = .function) (hp : pre s.heap)
    (hd : Room dp un lv)
    (k : ∀ a o h' tk', O o → Fr h₀ L h' m → News h₀ L h' ((a, o) :: news) → (∀ p ∈ news, p.1 ≠ a) → Q (.ref a) { s with heap := h', toks := tk' }) :
    wpAny (model PySem.Challenge.rw_nb0162_01.row.prog w) (Ar dp un gd (envOf name scope L a cd :: outer)) (call (.ref f) vs) Q E s :=
  C.use B F X N T hk hp hd fun v h' tk' F' N' r st => by
    obtain ⟨a, o, e, h1, h2, ho⟩ := r
    subst e
    exact k a o h' tk' ho F' (news_new F N st h2 h1) (ne_of_new N h1)
section
variable {M : Model} {A : Around} {E : Value → Shared → Prop} {s : Shared} {name : Str} {scope : Scope} {L a : Addr} {cd : Value} {h₀ : Heap} {l : List (Str × Value)} {m : Str → Option Value} {news : List (Addr × Obj)}
theorem ld_ov {x : Str} {pos : Pos} {v : Value} {Q : Value → Shared → Prop} (F : Fr h₀ L s.heap (ov l m)) (hv : some v = ov l m x) (h : Q v s)
    (hk : scope.kind = .function) (hl : some NameKind.local = (envOf name scope L a cd).kindOf x) (hd : (x == ("__debug__" : Str)) = false) :
    wpAny M A (eval (.Name x pos) (envOf name scope L a cd)) Q E s := ld F hv.symm h hk hl.symm hd
theorem ldn_ov {x : Str} {v : Value} {Q : Value → Shared → Prop} (F : Fr h₀ L s.heap (ov l m)) (hv : some v = ov l m x) (h : Q v s)
    (hk : scope.kind = .function) (hl : some NameKind.local = (envOf name scope L a cd).kindOf x) :
    wpAny M A (loadName (envOf name scope L a cd) x) Q E s := ldn F hv.symm h hk hl.symm
theorem st_ov {x : Str} {v : Value} {Q : Unit → Shared → Prop} (F : Fr h₀ L s.heap (ov l m)) (N : News h₀ L s.heap news)
    (h : ∀ h' tk, Fr h₀ L h' (ov ((x, v) :: l) m) → News h₀ L h' news → Q () { s with heap := h', toks := tk })
    (hk : scope.kind = .function) (hl : some NameKind.local = (envOf name scope L a cd).kindOf x) :
    wpAny M A (storeName (envOf name scope L a cd) x v) Q E s := stN F N (fun h' F' N' => h h' _ F' N') hk hl.symm
end
theorem name1 {P : Prop} {h₀ h : Heap} {L a : Addr} {o : Obj} {r : List (Addr × Obj)} (N : News h₀ L h ((a, o) :: r)) (k : ∀ a', a' = a → P) : P := k a rfl
theorem ret_int {s : Shared} {h' : Heap} {tk' : Nat} {L : Addr} {m : Str → Option Value} {Q : Value → Shared → Prop} {x y : Int} {t : Tok}
    (hret : ∀ v h' tk', s.heap.StaysIn h' → (∃ t, v = Value.int x t) → Q v { s with heap := h', toks := tk' }) (F : Fr s.heap L h' m) (e : y = x) : Q (.int y t) { s with heap := h', toks := tk' } :=
  hret _ _ _ F.keep ⟨t, by rw [e]⟩
theorem ret_str {s : Shared} {h' : Heap} {tk' : Nat} {L : Addr} {m : Str → Option Value} {Q : Value → Shared → Prop} {x y : Str} {t : Tok}
    (hret : ∀ v h' tk', s.heap.StaysIn h' → (∃ t, v = Value.str x t) → Q v { s with heap := h', toks := tk' }) (F : Fr s.heap L h' m) (e : y = x) : Q (.str y t) { s with heap := h', toks := tk' } :=
  hret _ _ _ F.keep ⟨t, by rw [e]⟩
theorem ret_bytes {s : Shared} {h' : Heap} {tk' : Nat} {L : Addr} {m : Str → Option Value} {Q : Value → Shared → Prop} {x y : Array UInt8} {t : Tok}
    (hret : ∀ v h' tk', s.heap.StaysIn h' → (∃ t, v = Value.bytes x t) → Q v { s with heap := h', toks := tk' }) (F : Fr s.heap L h' m) (e : y = x) : Q (.bytes y t) { s with heap := h', toks := tk' } :=
  hret _ _ _ F.keep ⟨t, by rw [e]⟩
theorem ret_bool {s : Shared} {h' : Heap} {tk' : Nat} {L : Addr} {m : Str → Option Value} {Q : Value → Shared → Prop} {x y : Bool}
    (hret : ∀ v h' tk', s.heap.StaysIn h' → v = Value.bool x → Q v { s with heap := h', toks := tk' }) (F : Fr s.heap L h' m) (e : y = x) : Q (.bool y) { s with heap := h', toks := tk' } :=
  hret _ _ _ F.keep (by rw [e])
theorem st_any {M : Model} {A : Around} {E : Value → Shared → Prop} {s : Shared} {name : Str} {scope : Scope} {L a : Addr} {cd : Value} {h₀ : Heap} {m : Str → Option Value} {news : List (Addr × Obj)} {x : Str} {v : Value} {Q : Unit → Shared → Prop}
    (F : Fr h₀ L s.heap m) (N : News h₀ L s.heap news)
    (h : ∀ h' tk, Fr h₀ L h' (fun y => if y = x then some v else m y) → News h₀ L h' news → Q () { s with heap := h', toks := tk })
    (hk : scope.kind = .function := by rfl) (hl : (envOf name scope L a cd).kindOf x = some .local := by rfl) :
    wpAny M A (storeName (envOf name scope L a cd) x v) Q E s := stN F N (fun h' F' N' => h h' _ F' N') hk hl

/-! expressions of ints, read off at once -/
section
variable {prog : Program} {w : World} {A : Around} {E : Value → Shared → Prop} {s : Shared} {name : Str} {scope : Scope} {L a : Addr} {cd : Value} {h₀ : Heap} {l : List (Str × Value)} {u : Str → Option Value} {news : List (Addr × Obj)}
def Small (n : Int) : Prop := n ≠ 0 ∧ n.natAbs < 1073741824
theorem small_of {n : Int} (h : 1 ≤ n ∧ n < 1000000) : Small n := ⟨by omega, by omega⟩
inductive IE (scope : Scope) (l : List (Str × Value)) (u : Str → Option Value) : Expr → Int → Prop
  | nm {x : Str} {pos : Pos} {n : Int} {t : Tok} (hv : some (Value.int n t) = ov l u x) (hk : some NameKind.local = (envOf "" scope 0 0 .none).kindOf x) (hd : (x == ("__debug__" : Str)) = false) : IE scope l u (.Name x pos) n
  | lit {n : Int} {k : Nat} {pos : Pos} : IE scope l u (.Constant (.int n) k pos) n
  | add {e f : Expr} {m n : Int} {pos : Pos} : IE scope l u e m → IE scope l u f n → IE scope l u (.BinOp e .Add f pos) (m + n)
  | sub {e f : Expr} {m n : Int} {pos : Pos} : IE scope l u e m → IE scope l u f n → IE scope l u (.BinOp e .Sub f pos) (m - n)
  | mul {e f : Expr} {m n : Int} {pos : Pos} : IE scope l u e m → IE scope l u f n → IntMulOk m n → IE scope l u (.BinOp e .Mult f pos) (m * n)
  | div {e f : Expr} {m n : Int} {pos : Pos} : IE scope l u e m → IE scope l u f n → Small n → IE scope l u (.BinOp e .FloorDiv f pos) (m.fdiv n)
  | mod {e f : Expr} {m n : Int} {pos : Pos} : IE scope l u e m → IE scope l u f n → Small n → IE scope l u (.BinOp e .Mod f pos) (m.fmod n)
  | neg {e : Expr} {m : Int} {pos : Pos} : IE scope l u e m → IE scope l u (.UnaryOp .USub e pos) (-m)
theorem IE.run {e : Expr} {n : Int} (h : IE scope l u e n) (hk : scope.kind = .function) : ∀ {s : Shared} {Q : Value → Shared → Prop}, Fr h₀ L s.heap (ov l u) → (∀ t k, Q (.int n t) { s with toks := k }) →
    wpAny (model prog w) A (eval e (envOf name scope L a cd)) Q E s := by
  induction h with
  | nm hv hkk hd => intro s Q F k; exact ld F hv.symm (k _ _) hk hkk.symm hd
  | lit => intro s Q F k; exact wpAny_Constant_int (k _ _)
  | add _ _ i1 i2 => intro s Q F k; exact wpAny_BinOp (i1 F fun t k1 => i2 (s := { s with toks := k1 }) F fun t' k2 => add_int (k _ _))
  | sub _ _ i1 i2 => intro s Q F k; exact wpAny_BinOp (i1 F fun t k1 => i2 (s := { s with toks := k1 }) F fun t' k2 => sub_int (k _ _))
  | mul _ _ hm i1 i2 => intro s Q F k; exact wpAny_BinOp (i1 F fun t k1 => i2 (s := { s with toks := k1 }) F fun t' k2 => mul_int (k _ _) hm)
  | div _ _ hs i1 i2 => intro s Q F k; exact wpAny_BinOp (i1 F fun t k1 => i2 (s := { s with toks := k1 }) F fun t' k2 => floordiv_int hs.1 (k _ _) (.inl (PyProof.noPylong_small hs.2)))
  | mod _ _ hs i1 i2 => intro s Q F k; exact wpAny_BinOp (i1 F fun t k1 => i2 (s := { s with toks := k1 }) F fun t' k2 => mod_int' hs.1 (k _ _))
  | neg _ i1 => intro s Q F k; exact wpAny_UnaryOp (i1 F fun t k1 => neg_int (k _ _))
/-- a comparison of ints -/
inductive BE (scope : Scope) (l : List (Str × Value)) (u : Str → Option Value) : Expr → Bool → Prop
  | lt {e f : Expr} {m n : Int} {pos : Pos} : IE scope l u e m → IE scope l u f n → BE scope l u (.Compare e [.Lt] [f] pos) (decide (m < n))
  | le {e f : Expr} {m n : Int} {pos : Pos} : IE scope l u e m → IE scope l u f n → BE scope l u (.Compare e [.LtE] [f] pos) (decide (m ≤ n))
  | gt {e f : Expr} {m n : Int} {pos : Pos} : IE scope l u e m → IE scope l u f n → BE scope l u (.Compare e [.Gt] [f] pos) (decide (n < m))
  | ge {e f : Expr} {m n : Int} {pos : Pos} : IE scope l u e m → IE scope l u f n → BE scope l u (.Compare e [.GtE] [f] pos) (decide (n ≤ m))
  | eq {e f : Expr} {m n : Int} {pos : Pos} : IE scope l u e m → IE scope l u f n → BE scope l u (.Compare e [.Eq] [f] pos) (m == n)
  | ne {e f : Expr} {m n : Int} {pos : Pos} : IE scope l u e m → IE scope l u f n → BE scope l u (.Compare e [.NotEq] [f] pos) (m != n)
theorem marks_IE {f : Expr} {n : Int} (h : IE scope l u f n) (op : CmpOp) : behindInMarks op f = false := by
  cases h <;> cases op <;> rfl
theorem BE.run {e : Expr} {b : Bool} (h : BE scope l u e b) (hk : scope.kind = .function) {Q : Value → Shared → Prop} (F : Fr h₀ L s.heap (ov l u)) (k : ∀ k, Q (.bool b) { s with toks := k }) :
    wpAny (model prog w) A (eval e (envOf name scope L a cd)) Q E s := by
  cases h with
  | lt i1 i2 => exact wpAny_Compare1 (i1.run hk F fun t k1 => i2.run (s := { s with toks := k1 }) hk F fun t' k2 => lt_int (k _)) (marks_IE i2 _)
  | le i1 i2 => exact wpAny_Compare1 (i1.run hk F fun t k1 => i2.run (s := { s with toks := k1 }) hk F fun t' k2 => le_int (k _)) (marks_IE i2 _)
  | gt i1 i2 => exact wpAny_Compare1 (i1.run hk F fun t k1 => i2.run (s := { s with toks := k1 }) hk F fun t' k2 => gt_int (k _)) (marks_IE i2 _)
  | ge i1 i2 => exact wpAny_Compare1 (i1.run hk F fun t k1 => i2.run (s := { s with toks := k1 }) hk F fun t' k2 => ge_int (k _)) (marks_IE i2 _)
  | eq i1 i2 => exact wpAny_Compare1 (i1.run hk F fun t k1 => i2.run (s := { s with toks := k1 }) hk F fun t' k2 => eq_int (k _)) (marks_IE i2 _)
  | ne i1 i2 => exact wpAny_Compare1 (i1.run hk F fun t k1 => i2.run (s := { s with toks := k1 }) hk F fun t' k2 => ne_int (k _)) (marks_IE i2 _)
theorem BE.test {e : Expr} {b : Bool} (h : BE scope l u e b) (hk : scope.kind = .function) {whole : Sem Value} {Q : Bool → Shared → Prop} (F : Fr h₀ L s.heap (ov l u)) (k : ∀ k, Q b { s with toks := k }) :
    wpAny (model prog w) A (isTrue e (envOf name scope L a cd) whole) Q E s := by
  cases h with
  | lt i1 i2 => exact wpAny_isTrue_Compare1 (i1.run hk F fun t k1 => i2.run (s := { s with toks := k1 }) hk F fun t' k2 => lt_int (wpAny_truthy_bool (k _))) (marks_IE i2 _)
  | le i1 i2 => exact wpAny_isTrue_Compare1 (i1.run hk F fun t k1 => i2.run (s := { s with toks := k1 }) hk F fun t' k2 => le_int (wpAny_truthy_bool (k _))) (marks_IE i2 _)
  | gt i1 i2 => exact wpAny_isTrue_Compare1 (i1.run hk F fun t k1 => i2.run (s := { s with toks := k1 }) hk F fun t' k2 => gt_int (wpAny_truthy_bool (k _))) (marks_IE i2 _)
  | ge i1 i2 => exact wpAny_isTrue_Compare1 (i1.run hk F fun t k1 => i2.run (s := { s with toks := k1 }) hk F fun t' k2 => ge_int (wpAny_truthy_bool (k _))) (marks_IE i2 _)
  | eq i1 i2 => exact wpAny_isTrue_Compare1 (i1.run hk F fun t k1 => i2.run (s := { s with toks := k1 }) hk F fun t' k2 => eq_int (wpAny_truthy_bool (k _))) (marks_IE i2 _)
  | ne i1 i2 => exact wpAny_isTrue_Compare1 (i1.run hk F fun t k1 => i2.run (s := { s with toks := k1 }) hk F fun t' k2 => ne_int (wpAny_truthy_bool (k _))) (marks_IE i2 _)
theorem test_be {e : Expr} {b : Bool} {whole : Sem Value} {Q : Bool → Shared → Prop} (F : Fr h₀ L s.heap (ov l u)) (h : BE scope l u e b) (k : ∀ k, Q b { s with toks := k }) (hk : scope.kind = .function) :
    wpAny (model prog w) A (isTrue e (envOf name scope L a cd) whole) Q E s := h.test hk F k
theorem run_be {e : Expr} {b : Bool} {Q : Value → Shared → Prop} (F : Fr h₀ L s.heap (ov l u)) (h : BE scope l u e b) (k : ∀ k, Q (.bool b) { s with toks := k }) (hk : scope.kind = .function) :
    wpAny (model prog w) A (eval e (envOf name scope L a cd)) Q E s := h.run hk F k
theorem run_ie {e : Expr} {n : Int} {Q : Value → Shared → Prop} (F : Fr h₀ L s.heap (ov l u)) (h : IE scope l u e n) (k : ∀ t k, Q (.int n t) { s with toks := k }) (hk : scope.kind = .function) :
    wpAny (model prog w) A (eval e (envOf name scope L a cd)) Q E s := h.run hk F k
theorem assign_ie {x : Str} {p pos : Pos} {e : Expr} {n : Int} {Q : Flow → Shared → Prop} (F : Fr h₀ L s.heap (ov l u)) (N : News h₀ L s.heap news) (h : IE scope l u e n)
    (k : ∀ t h' tk, Fr h₀ L h' (ov ((x, .int n t) :: l) u) → News h₀ L h' news → Q .next { s with heap := h', toks := tk })
    (hk : scope.kind = .function) (hl : some NameKind.local = (envOf name scope L a cd).kindOf x) (hs : swapsWith e (some (.Name x p)) pos.line (envOf name scope L a cd) = pure false) :
    wpAny (model prog w) A (exec (.Assign [.Name x p] e pos) (envOf name scope L a cd)) Q E s :=
  wpAny_Assign_Name (h.run hk F fun t k1 => st_ov (s := { s with toks := k1 }) F N (fun h' tk F' N' => k t h' tk F' N') hk hl) hs
theorem aug_add {x : Str} {p pos : Pos} {e : Expr} {m n : Int} {t : Tok} {Q : Flow → Shared → Prop} (F : Fr h₀ L s.heap (ov l u)) (N : News h₀ L s.heap news) (hv : some (Value.int m t) = ov l u x) (h : IE scope l u e n)
    (k : ∀ t h' tk, Fr h₀ L h' (ov ((x, .int (m + n) t) :: l) u) → News h₀ L h' news → Q .next { s with heap := h', toks := tk })
    (hk : scope.kind = .function) (hl : some NameKind.local = (envOf name scope L a cd).kindOf x) :
    wpAny (model prog w) A (exec (.AugAssign (.Name x p) .Add e pos) (envOf name scope L a cd)) Q E s :=
  wpAny_AugAssign_Name (ldn F hv.symm (h.run hk F fun t' k1 => iadd_int (st_ov (s := { s with toks := _ }) F N (fun h' tk F' N' => k _ h' tk F' N') hk hl)) hk hl.symm)
theorem ret_ie {e : Expr} {pos : Pos} {n : Int} {Q : Flow → Shared → Prop} (F : Fr h₀ L s.heap (ov l u)) (h : IE scope l u e n) (k : ∀ t tk, Q (.ret (.int n t)) { s with toks := tk }) (hk : scope.kind = .function) :
    wpAny (model prog w) A (exec (.Return (some e) pos) (envOf name scope L a cd)) Q E s := wpAny_Return_some (h.run hk F k)
/-- an argument of a call: an int, a test, a name -/
inductive AE (scope : Scope) (l : List (Str × Value)) (u : Str → Option Value) : Expr → (Tok → Value) → Prop
  | int {e : Expr} {n : Int} : IE scope l u e n → AE scope l u e (fun t => .int n t)
  | test {e : Expr} {b : Bool} : BE scope l u e b → AE scope l u e (fun _ => .bool b)
  | nm {x : Str} {pos : Pos} {v : Value} (hv : some v = ov l u x) (hk : some NameKind.local = (envOf "" scope 0 0 .none).kindOf x) (hd : (x == ("__debug__" : Str)) = false) : AE scope l u (.Name x pos) (fun _ => v)
theorem AE.run {e : Expr} {f : Tok → Value} (h : AE scope l u e f) (hk : scope.kind = .function) {Q : Value → Shared → Prop} (F : Fr h₀ L s.heap (ov l u)) (k : ∀ t k, Q (f t) { s with toks := k }) :
    wpAny (model prog w) A (eval e (envOf name scope L a cd)) Q E s := by
  cases h with
  | int i => exact i.run hk F k
  | test i => exact i.run hk F (k 0)
  | nm hv hkk hd => exact ld F hv.symm (k 0 _) hk hkk.symm hd
inductive AEs (scope : Scope) (l : List (Str × Value)) (u : Str → Option Value) : List Expr → List (Tok → Value) → Prop
  | nil : AEs scope l u [] []
  | cons {e : Expr} {f : Tok → Value} {es : List Expr} {fs : List (Tok → Value)} : AE scope l u e f → AEs scope l u es fs → AEs scope l u (e :: es) (f :: fs)
theorem AE.plain {e : Expr} {f : Tok → Value} (h : AE scope l u e f) (env : Env) (rest : List Expr) : starEach (e :: rest) env = (false, eval e env) :: starEach rest env := by
  cases h with
  | int i => cases i <;> rfl
  | test i => cases i <;> rfl
  | nm => rfl
theorem AEs.plain {es : List Expr} {fs : List (Tok → Value)} (h : AEs scope l u es fs) (env : Env) (pos : Pos) : (backTo pos (starEach es env)).any (·.1) = false := by
  induction h with
  | nil => rfl
  | cons h _ ih =>
    rw [h.plain env]
    show (false || (backTo pos (starEach _ env)).any (·.1)) = false
    rw [ih]; rfl
/-- the values, with tokens -/
def toked : List (Tok → Value) → (Nat → Tok) → List Value
  | [], _ => []
  | f :: fs, T => f (T 0) :: toked fs fun k => T (k + 1)
theorem AEs.run {es : List Expr} {fs : List (Tok → Value)} (h : AEs scope l u es fs) (hk : scope.kind = .function) {pos : Pos} : ∀ {s : Shared} {Q : List Value → Shared → Prop}, Fr h₀ L s.heap (ov l u) → (∀ T k, Q (toked fs T) { s with toks := k }) →
    wpAny (model prog w) A (spliced (backTo pos (starEach es (envOf name scope L a cd)))) Q E s := by
  induction h with
  | nil => intro s Q F k; exact spliced_none (k (fun _ => 0) s.toks)
  | @cons e f es fs h _ ih =>
    intro s Q F k
    refine spliced_more ?_ (h.plain _ _)
    refine h.run hk F fun t k1 => ih (s := { s with toks := k1 }) F fun T k2 => ?_
    exact k (fun j => match j with | 0 => t | j + 1 => T j) k2
end
section
variable {w : World} {mean : ExcName → Option Value} {mg mb : Str → Option Value} {A : Around} {E : Value → Shared → Prop} {s : Shared} {name : Str} {scope : Scope} {L a : Addr} {cd : Value} {h₀ : Heap} {l : List (Str × Value)} {u : Str → Option Value} {prog : Program}
theorem call_ae {x : Str} {np pos : Pos} {e : Expr} {rest : List Expr} {fs : List (Tok → Value)} {fa : Addr} {Q : Value → Shared → Prop} (F : Fr h₀ L s.heap (ov l u)) (X : (hd.heap_39 w.params).In h₀) (T : TopF mean mg mb h₀)
    (hn : nsIn (hd.heap_39 w.params) mainGlobals x = some (some (.ref fa))) (hkp : keepIn (hd.heap_39 w.params) (.ref fa) = true) (hk : scope.kind = .function) (hx : some NameKind.globalImplicit = (envOf name scope L a cd).kindOf x) (hd : (x == ("__debug__" : Str)) = false)
    (as : AEs scope l u (e :: rest) fs) (k : ∀ T k, wpAny (model prog w) A (call (.ref fa) (toked fs T)) Q E { s with toks := k }) :
    wpAny (model prog w) A (eval (.Call (.Name x np) (e :: rest) [] pos) (envOf name scope L a cd)) Q E s := by
  refine wpAny_Call_ofName (name_K F X (topRead_of T) hn ?_ hk hx.symm hd)
  cases as with
  | cons h1 h2 =>
    refine callWith_K X hkp ?_ (h1.plain _ _) (h2.plain _ _)
    exact (AEs.cons h1 h2).run hk F fun T k1 => ⟨X.keeps F.keep, k T k1⟩
end

theorem setup_base : True := by
  k_with "loop" =>
    (fail_if_success (with_reducible show wpAny _ _ (PySem.exec (PySem.Stmt.While _ _ _ _) _) _ _ _)
     fail_if_success (with_reducible show wpAny _ _ (PySem.exec (PySem.Stmt.For _ _ _ _ _) _) _ _ _)
     fail_if_success (with_reducible show wpAny _ _ (PySem.pyIter _) _ _ _)
     fail_if_success (with_reducible show wpAny _ _ (PySem.call (PySem.Value.type "enumerate") _) _ _ _)
     fail_if_success (with_reducible show wpAny _ _ (PySem.call (PySem.Value.type "range") _) _ _ _)
     fail_if_success (with_reducible show wpAny _ _ (PySem.call (PySem.Value.type "zip") _) _ _ _))
  k_with "go" => ((repeat' (first | (k_unfold; (try dsimp only)) | (k_extra "loop"; walk1) | (k_extra "loop"; dsimp only; k_extra "loop"; walk1))) <;> (try dsimp only))
  k_with "subscriptTail" => (k_here; (with_reducible show wpAny _ _ (subscriptTail _ _ (Value.bytes (List.toArray _) _) (Value.int _ _)) _ _ _); k_dflt (refine' bytes_item_K ?z1 ?z2 ?z3 ?z4 ?_; (case z1 => first | assumption | omega); (case z2 => first | assumption | omega); (case z3 => first | assumption | omega); (case z4 => show ((UInt8.toNat _ : Nat) : Int) = _; assumption); k_whole))
  k_with "k_all" => (show ∀ _ ∈ _, _ ≠ _; assumption)
  k_with "has" => repeat (first | exact HasD.nil | ((with_reducible show HasD _ ((_, Dv.r _) :: _)); refine HasD.cons ⟨0, rfl⟩ ?_) | refine HasD.cons ⟨_, rfl⟩ ?_ | refine HasD.cons ⟨0, rfl⟩ ?_)
  k_with "storeName" => (k_here; (try dsimp only); k_dflt (refine' st_ov ?z5 ?z6 ?_ ?z7 ?z8; (case z5 => k_asm); (case z6 => k_asm); (case z7 => exact rfl); (case z8 => exact rfl); k_whole); intro h' tk' F' N'; (try dsimp only); (try k_sweep))
  k_with "eval Name" => (k_here; k_dflt (refine' ld_ov ?z9 ?z10 ?_ ?z11 ?z12 ?z13; (case z9 => k_asm); (case z10 => exact rfl); (case z11 => exact rfl); (case z12 => exact rfl); (case z13 => exact rfl); k_whole))
  k_with "loadName" => (k_here; k_dflt (refine' ldn_ov ?z14 ?z15 ?_ ?z16 ?z17; (case z14 => k_asm); (case z15 => exact rfl); (case z16 => exact rfl); (case z17 => exact rfl); k_whole))
  k_with "callWith" => (k_here; (try dsimp only); (with_reducible show wpAny _ _ (PySem.callWith _ (PySem.Value.builtin _) [_] (PySem.backTo _ (PySem.starEach [_] _)) []) _ _ _); k_dflt (refine PyProof.Rows.callWith_method1 ?_))
  trivial
theorem setup_VE : True := by
  k_with "ie" => first
    | ((with_reducible show IE _ _ _ (PySem.Expr.Constant _ _ _) _); exact IE.lit)
    | ((with_reducible show IE _ _ _ (PySem.Expr.Name _ _) _); exact IE.nm rfl rfl rfl)
    | ((with_reducible show IE _ _ _ (PySem.Expr.BinOp _ PySem.Operator.Add _ _) _); exact IE.add (by k_extra "ie") (by k_extra "ie"))
    | ((with_reducible show IE _ _ _ (PySem.Expr.BinOp _ PySem.Operator.Sub _ _) _); exact IE.sub (by k_extra "ie") (by k_extra "ie"))
    | ((with_reducible show IE _ _ _ (PySem.Expr.BinOp _ PySem.Operator.Mult _ _) _); exact IE.mul (by k_extra "ie") (by k_extra "ie") (by mul_fits))
    | ((with_reducible show IE _ _ _ (PySem.Expr.BinOp _ PySem.Operator.FloorDiv _ _) _); exact IE.div (by k_extra "ie") (by k_extra "ie") (by first | assumption | exact ⟨by decide, by decide⟩ | exact small_of (by omega)))
    | ((with_reducible show IE _ _ _ (PySem.Expr.BinOp _ PySem.Operator.Mod _ _) _); exact IE.mod (by k_extra "ie") (by k_extra "ie") (by first | assumption | exact ⟨by decide, by decide⟩ | exact small_of (by omega)))
    | ((with_reducible show IE _ _ _ (PySem.Expr.UnaryOp PySem.UnaryOp.USub _ _) _); exact IE.neg (by k_extra "ie"))
  k_with "be" => first
    | ((with_reducible show BE _ _ _ (PySem.Expr.Compare _ [PySem.CmpOp.Lt] _ _) _); exact BE.lt (by k_extra "ie") (by k_extra "ie"))
    | ((with_reducible show BE _ _ _ (PySem.Expr.Compare _ [PySem.CmpOp.LtE] _ _) _); exact BE.le (by k_extra "ie") (by k_extra "ie"))
    | ((with_reducible show BE _ _ _ (PySem.Expr.Compare _ [PySem.CmpOp.Gt] _ _) _); exact BE.gt (by k_extra "ie") (by k_extra "ie"))
    | ((with_reducible show BE _ _ _ (PySem.Expr.Compare _ [PySem.CmpOp.GtE] _ _) _); exact BE.ge (by k_extra "ie") (by k_extra "ie"))
    | ((with_reducible show BE _ _ _ (PySem.Expr.Compare _ [PySem.CmpOp.Eq] _ _) _); exact BE.eq (by k_extra "ie") (by k_extra "ie"))
    | ((with_reducible show BE _ _ _ (PySem.Expr.Compare _ [PySem.CmpOp.NotEq] _ _) _); exact BE.ne (by k_extra "ie") (by k_extra "ie"))
  k_with "exec Assign" => (k_here; (with_reducible show wpAny _ _ (PySem.exec (PySem.Stmt.Assign [PySem.Expr.Name _ _] _ _) _) _ _ _); (try dsimp only); k_dflt (refine' assign_ie ?z1 ?z2 ?z3 ?_ ?z4 ?z5 ?z6; (case z1 => k_asm); (case z2 => k_asm); (case z3 => k_extra "ie"); (case z4 => exact rfl); (case z5 => exact rfl); (case z6 => exact rfl); k_whole); intro t' h' tk' F' N'; (try dsimp only); (try k_sweep))
  k_with "exec AugAssign" => (k_here; (with_reducible show wpAny _ _ (PySem.exec (PySem.Stmt.AugAssign (PySem.Expr.Name _ _) PySem.Operator.Add _ _) _) _ _ _); (try dsimp only); k_dflt (refine' aug_add ?z7 ?z8 ?z9 ?z10 ?_ ?z11 ?z12; (case z7 => k_asm); (case z8 => k_asm); (case z9 => exact rfl); (case z10 => k_extra "ie"); (case z11 => exact rfl); (case z12 => exact rfl); k_whole); intro t' h' tk' F' N'; (try dsimp only); (try k_sweep))
  k_with "exec Return some" => (k_here; k_dflt (refine' ret_ie ?z13 ?z14 ?_ ?z15; (case z13 => k_asm); (case z14 => k_extra "ie"); (case z15 => exact rfl); k_whole); intro t' tk')
  k_with "isTrue Compare" => (k_here; k_dflt (refine' test_be ?z16 ?z17 ?_ ?z18; (case z16 => k_asm); (case z17 => k_extra "be"); (case z18 => exact rfl); k_whole); intro tk')
  k_with "eval Compare" => (k_here; k_dflt (refine' run_be ?z19 ?z20 ?_ ?z21; (case z19 => k_asm); (case z20 => k_extra "be"); (case z21 => exact rfl); k_whole); intro tk')
  k_with "eval BinOp" => (k_here; k_dflt (refine' run_ie ?z22 ?z23 ?_ ?z24; (case z22 => k_asm); (case z23 => k_extra "ie"); (case z24 => exact rfl); k_whole); intro t' tk')
  trivial
def tval (j bias : Int) : Int := if 36 * (j + 1) - bias < 1 then 1 else if 36 * (j + 1) - bias > 26 then 26 else 36 * (j + 1) - bias
theorem T_tells (w : World) (mean : ExcName → Option Value) (mg mb : Str → Option Value) (j bias : Int) (tj tb : Tok) (hj : 0 ≤ j ∧ j < 100) (hb : 0 ≤ bias ∧ bias < 1000) :
    Tells w mean mg mb 1 21 [.int j tj, .int bias tb] (fun _ => True) (fun v _ _ => ∃ t, v = .int (tval j bias) t) := by
  unfold Tells
  k_fill
  intro dp un gd outer base s Q E B X T hpre hroom hret
  refine enter [("j", .int j tj), ("bias", .int bias tb)] (by assumption) (by assumption) (by assumption) (Room.here (by assumption)) (by k_is) (by k_is) (by exact rfl) (by exact rfl) (by exact rfl) ?_ (by decide) (by exact rfl) (by exact rfl) (by exact rfl)
  intro L h₁ tk u F N
  k_fold
  k_extra "go"
  all_goals (refine ret_int hret (by assumption) ?_; unfold tval; repeat' split) <;> omega

/-! plain arithmetic of the numerals -/
def up (d : Int) : UInt8 := (if d < 26 then 65 + d else 22 + d).toNat.toUInt8
def lo (d : Int) : UInt8 := (if d < 26 then 97 + d else 22 + d).toNat.toUInt8
/-- a number's figures under the thresholds, from place j on -/
def encD (bias : Int) : Nat → Int → Int → List Int
  | 0, _, _ => []
  | f + 1, j, N => if N < tval j bias then [N] else (tval j bias + (N - tval j bias).fmod (36 - tval j bias)) :: encD bias f (j + 1) ((N - tval j bias).fdiv (36 - tval j bias))

theorem tval_bounds (j bias : Int) : 1 ≤ tval j bias ∧ tval j bias ≤ 26 := by
  unfold tval; repeat' split
  all_goals omega
theorem up_val {d : Int} (h0 : 0 ≤ d) (h1 : d < 36) : ((up d).toNat : Int) = if d < 26 then 65 + d else 22 + d := by
  unfold up
  exact byte_back (by split <;> omega) (by split <;> omega)
theorem lo_val {d : Int} (h0 : 0 ≤ d) (h1 : d < 36) : ((lo d).toNat : Int) = if d < 26 then 97 + d else 22 + d := by
  unfold lo
  exact byte_back (by split <;> omega) (by split <;> omega)

/-- one figure taken off -/
theorem enc_step {t N : Int} (ht : 1 ≤ t ∧ t ≤ 26) (hN : t ≤ N) :
    t ≤ t + (N - t).fmod (36 - t) ∧ t + (N - t).fmod (36 - t) < 36 ∧ 0 ≤ (N - t).fdiv (36 - t) ∧ 10 * (N - t).fdiv (36 - t) ≤ N - t ∧ N = t + (N - t).fmod (36 - t) + (36 - t) * (N - t).fdiv (36 - t) := by
  rw [Int.fmod_eq_emod_of_nonneg _ (by omega), Int.fdiv_eq_ediv_of_nonneg _ (by omega)]
  have h1 := Int.emod_nonneg (N - t) (b := 36 - t) (by omega)
  have h2 := Int.emod_lt_of_pos (N - t) (b := 36 - t) (by omega)
  have h3 := Int.ediv_nonneg (a := N - t) (b := 36 - t) (by omega) (by omega)
  have h4 := Int.emod_add_mul_ediv (N - t) (36 - t)
  refine ⟨by omega, by omega, h3, ?_, by omega⟩
  have h5 : 10 * ((N - t) / (36 - t)) ≤ (36 - t) * ((N - t) / (36 - t)) := Int.mul_le_mul_of_nonneg_right (by omega) h3
  omega

def adaptv (delta : Int) (first : Bool) (nc : Int) : Int :=
  let d1 := if first then delta.fdiv 700 else delta.fdiv 2
  let d2 := d1 + d1.fdiv nc
  if 455 < d2 then 36 + (36 * d2.fdiv 35).fdiv (d2.fdiv 35 + 38) else (36 * d2).fdiv (d2 + 38)
theorem fdiv_bounds {a b : Int} (ha : 0 ≤ a) (hb : 1 ≤ b) : 0 ≤ a.fdiv b ∧ a.fdiv b ≤ a := by
  rw [Int.fdiv_eq_ediv_of_nonneg _ (by omega)]
  exact ⟨Int.ediv_nonneg ha (by omega), Int.ediv_le_self _ ha⟩
theorem adapt_tells (w : World) (mean : ExcName → Option Value) (mg mb : Str → Option Value) (delta nc : Int) (first : Bool) (t1 t2 : Tok) (hd : 0 ≤ delta ∧ delta < 2000) (hn : 1 ≤ nc ∧ nc < 100) :
    Tells w mean mg mb 1 35 [.int delta t1, .bool first, .int nc t2] (fun _ => True) (fun v _ _ => ∃ t, v = .int (adaptv delta first nc) t) := by
  unfold Tells
  k_fill
  intro dp un gd outer base s Q E B X T hpre hroom hret
  refine enter [("delta", .int delta t1), ("first", .bool first), ("numchars", .int nc t2)] (by assumption) (by assumption) (by assumption) (Room.here (by assumption)) (by k_is) (by k_is) (by exact rfl) (by exact rfl) (by exact rfl) ?_ (by decide) (by exact rfl) (by exact rfl) (by exact rfl)
  intro L h₁ tk u F N
  k_fold
  k_extra "go"
  all_goals (
    obtain ⟨d2, hd2, hdd⟩ : ∃ d2 : Int, (if first then delta.fdiv 700 else delta.fdiv 2) + (if first then delta.fdiv 700 else delta.fdiv 2).fdiv nc = d2 ∧ 0 ≤ d2 ∧ d2 < 4000 := by
      refine ⟨_, rfl, ?_⟩
      have h1 := fdiv_bounds hd.1 (b := 700) (by omega)
      have h2 := fdiv_bounds hd.1 (b := 2) (by omega)
      have h3 := fdiv_bounds h1.1 hn.1
      have h4 := fdiv_bounds h2.1 hn.1
      cases first <;> simp only [if_true, if_false, Bool.false_eq_true] <;> omega
    refine' while_rule (σ := Int × Int) (fun c => (c.1 = d2 ∧ c.2 = 0) ∨ (c.1 = d2.fdiv 35 ∧ c.2 = 36 ∧ 455 < d2)) (fun _ => []) (fun c => [("delta", .i c.1), ("divisions", .i c.2)]) (fun c => c.1.toNat) (d2, 0) ?F ?N ?hm ?hn ?hI ?turn ?hE
    (case F => assumption)
    (case N => assumption)
    (case hm => simp_all only [if_true, if_false, Bool.false_eq_true]; k_extra "has")
    (case hn => intro p hp; cases hp)
    (case hE => passes_own)
    (case hI => exact .inl ⟨rfl, rfl⟩)
    (case turn =>
      rintro ⟨d, dv⟩ u TT h tk hI F N
      dsimp only [vals, Dv.v] at F hI
      have hq := fdiv_bounds hdd.1 (b := 35) (by omega)
      have hq2 : d2.fdiv 35 < 200 := by rw [Int.fdiv_eq_ediv_of_nonneg _ (by omega)]; omega
      have hdr : 0 ≤ d := by omega
      k_extra "go"
      · rcases hI with ⟨rfl, rfl⟩ | ⟨rfl, rfl, h5⟩
        · refine wpost (d.fdiv 35, 0 + 36) (by assumption) (by assumption) (by intro p hp; cases hp) (by k_extra "has") (.inr ⟨rfl, rfl, by assumption⟩) ?_
          dsimp only; omega
        · omega
      · refine ret_int hret (by assumption) ?_
        unfold adaptv
        dsimp only
        rw [hd2]
        rcases hI with ⟨rfl, rfl⟩ | ⟨rfl, rfl, h5⟩
        · rw [if_neg (by omega)]; omega
        · rw [if_pos h5]))

theorem lawbias_tells (w : World) (mean : ExcName → Option Value) (mg mb : Str → Option Value) (delta nc : Int) (first : Bool) (t1 t2 : Tok) (hd : 0 ≤ delta ∧ delta < 2000) (hn : 1 ≤ nc ∧ nc < 100) :
    Tells w mean mg mb 1 140 [.int delta t1, .bool first, .int nc t2] (fun _ => True) (fun v _ _ => ∃ t, v = .int (adaptv delta first nc) t) := by
  unfold Tells
  k_fill
  intro dp un gd outer base s Q E B X T hpre hroom hret
  refine enter [("number", .int delta t1), ("first", .bool first), ("size", .int nc t2)] (by assumption) (by assumption) (by assumption) (Room.here (by assumption)) (by k_is) (by k_is) (by exact rfl) (by exact rfl) (by exact rfl) ?_ (by decide) (by exact rfl) (by exact rfl) (by exact rfl)
  intro L h₁ tk u F N
  k_fold
  k_extra "go"
  all_goals (
    obtain ⟨d2, hd2, hdd⟩ : ∃ d2 : Int, (if first then delta.fdiv 700 else delta.fdiv 2) + (if first then delta.fdiv 700 else delta.fdiv 2).fdiv nc = d2 ∧ 0 ≤ d2 ∧ d2 < 4000 := by
      refine ⟨_, rfl, ?_⟩
      have h1 := fdiv_bounds hd.1 (b := 700) (by omega)
      have h2 := fdiv_bounds hd.1 (b := 2) (by omega)
      have h3 := fdiv_bounds h1.1 hn.1
      have h4 := fdiv_bounds h2.1 hn.1
      cases first <;> simp only [if_true, if_false, Bool.false_eq_true] <;> omega
    refine' while_rule (σ := Int × Int) (fun c => (c.1 = d2 ∧ c.2 = 0) ∨ (c.1 = d2.fdiv 35 ∧ c.2 = 1 ∧ 455 < d2)) (fun _ => []) (fun c => [("left", .i c.1), ("rounds", .i c.2)]) (fun c => c.1.toNat) (d2, 0) ?F ?N ?hm ?hn ?hI ?turn ?hE
    (case F => assumption)
    (case N => assumption)
    (case hm => simp_all only [if_true, if_false, Bool.false_eq_true]; k_extra "has")
    (case hn => intro p hp; cases hp)
    (case hE => passes_own)
    (case hI => exact .inl ⟨rfl, rfl⟩)
    (case turn =>
      rintro ⟨d, dv⟩ u TT h tk hI F N
      dsimp only [vals, Dv.v] at F hI
      have hq := fdiv_bounds hdd.1 (b := 35) (by omega)
      have hq2 : d2.fdiv 35 < 200 := by rw [Int.fdiv_eq_ediv_of_nonneg _ (by omega)]; omega
      have hdr : 0 ≤ d := by omega
      k_extra "go"
      · rcases hI with ⟨rfl, rfl⟩ | ⟨rfl, rfl, h5⟩
        · refine wpost (d.fdiv 35, 0 + 1) (by assumption) (by assumption) (by intro p hp; cases hp) (by k_extra "has") (.inr ⟨rfl, rfl, by assumption⟩) ?_
          dsimp only; omega
        · omega
      · refine ret_int hret (by assumption) ?_
        unfold adaptv
        dsimp only
        rw [hd2]
        rcases hI with ⟨rfl, rfl⟩ | ⟨rfl, rfl, h5⟩
        · rw [if_neg (by omega)]; omega
        · rw [if_pos h5]; omega))
theorem add_tells (w : World) (mean : ExcName → Option Value) (mg mb : Str → Option Value) (a b : Int) (t1 t2 : Tok) :
    Tells w mean mg mb 1 63 [.int a t1, .int b t2] (fun _ => True) (fun v _ _ => ∃ t, v = .int (a + b) t) := by
  unfold Tells
  k_fill
  intro dp un gd outer base s Q E B X T hpre hroom hret
  refine enter [("a", .int a t1), ("b", .int b t2)] (by assumption) (by assumption) (by assumption) (Room.here (by assumption)) (by k_is) (by k_is) (by exact rfl) (by exact rfl) (by exact rfl) ?_ (by decide) (by exact rfl) (by exact rfl) (by exact rfl)
  intro L h₁ tk u F N
  k_fold
  k_extra "go"
  exact ret_int hret (by assumption) rfl
theorem sub_tells (w : World) (mean : ExcName → Option Value) (mg mb : Str → Option Value) (a b : Int) (t1 t2 : Tok) :
    Tells w mean mg mb 1 91 [.int a t1, .int b t2] (fun _ => True) (fun v _ _ => ∃ t, v = .int (a - b) t) := by
  unfold Tells
  k_fill
  intro dp un gd outer base s Q E B X T hpre hroom hret
  refine enter [("a", .int a t1), ("b", .int b t2)] (by assumption) (by assumption) (by assumption) (Room.here (by assumption)) (by k_is) (by k_is) (by exact rfl) (by exact rfl) (by exact rfl) ?_ (by decide) (by exact rfl) (by exact rfl) (by exact rfl)
  intro L h₁ tk u F N
  k_fold
  k_extra "go"
  exact ret_int hret (by assumption) rfl
theorem mul_tells (w : World) (mean : ExcName → Option Value) (mg mb : Str → Option Value) (a b : Int) (t1 t2 : Tok) (ha : a.natAbs < 100000) (hb : b.natAbs < 100000) :
    Tells w mean mg mb 1 84 [.int a t1, .int b t2] (fun _ => True) (fun v _ _ => ∃ t, v = .int (a * b) t) := by
  unfold Tells
  k_fill
  intro dp un gd outer base s Q E B X T hpre hroom hret
  refine enter [("a", .int a t1), ("b", .int b t2)] (by assumption) (by assumption) (by assumption) (Room.here (by assumption)) (by k_is) (by k_is) (by exact rfl) (by exact rfl) (by exact rfl) ?_ (by decide) (by exact rfl) (by exact rfl) (by exact rfl)
  intro L h₁ tk u F N
  k_fold
  k_extra "go"
  exact ret_int hret (by assumption) rfl
theorem floordiv_tells (w : World) (mean : ExcName → Option Value) (mg mb : Str → Option Value) (a b : Int) (t1 t2 : Tok) (hb : 1 ≤ b ∧ b < 100000) :
    Tells w mean mg mb 1 70 [.int a t1, .int b t2] (fun _ => True) (fun v _ _ => ∃ t, v = .int (a.fdiv b) t) := by
  unfold Tells
  k_fill
  intro dp un gd outer base s Q E B X T hpre hroom hret
  refine enter [("a", .int a t1), ("b", .int b t2)] (by assumption) (by assumption) (by assumption) (Room.here (by assumption)) (by k_is) (by k_is) (by exact rfl) (by exact rfl) (by exact rfl) ?_ (by decide) (by exact rfl) (by exact rfl) (by exact rfl)
  intro L h₁ tk u F N
  k_fold
  k_extra "go"
  exact ret_int hret (by assumption) rfl
theorem mod_tells (w : World) (mean : ExcName → Option Value) (mg mb : Str → Option Value) (a b : Int) (t1 t2 : Tok) (hb : 1 ≤ b ∧ b < 100000) :
    Tells w mean mg mb 1 77 [.int a t1, .int b t2] (fun _ => True) (fun v _ _ => ∃ t, v = .int (a.fmod b) t) := by
  unfold Tells
  k_fill
  intro dp un gd outer base s Q E B X T hpre hroom hret
  refine enter [("a", .int a t1), ("b", .int b t2)] (by assumption) (by assumption) (by assumption) (Room.here (by assumption)) (by k_is) (by k_is) (by exact rfl) (by exact rfl) (by exact rfl) ?_ (by decide) (by exact rfl) (by exact rfl) (by exact rfl)
  intro L h₁ tk u F N
  k_fold
  k_extra "go"
  exact ret_int hret (by assumption) rfl

/-! calls in whose course an exception flies: the frames of the stack get new slots -/
abbrev frs (outer : List Env) : List Addr := outer.filterMap (·.frame)
def TellsX (w : World) (mean : ExcName → Option Value) (mg mb : Str → Option Value) (lv : Nat) (f : Addr) (vs : List Value) (pre : Heap → Prop) (R : Value → Heap → Heap → Prop) : Prop :=
  ∀ (dp un : Nat) (gd : Option (List Code)) (outer : List Env) (base : Heap) (s : Shared) (Q E : Value → Shared → Prop),
    Below (Ar dp un gd outer) base outer s.heap → (hd.heap_39 w.params).In base → TopF mean mg mb base → KtsDicts (frs outer) s.heap → pre s.heap → Room dp un lv →
    (∀ v g' h' tk', KtsTurn (frs outer) s.heap g' → g'.StaysIn h' → R v g' h' → Q v { s with heap := h', toks := tk' }) →
    wpAny (model PySem.Challenge.rw_nb0162_01.row.prog w) (Ar dp un gd outer) (call (.ref f) vs) Q E s
/-- a call that raises -/
def TellsR (w : World) (mean : ExcName → Option Value) (mg mb : Str → Option Value) (lv : Nat) (f : Addr) (vs : List Value) (pre : Heap → Prop) (cls : String) : Prop :=
  ∀ (dp un : Nat) (gd : Option (List Code)) (outer : List Env) (base : Heap) (s : Shared) (Q E : Value → Shared → Prop),
    Below (Ar dp un gd outer) base outer s.heap → (hd.heap_39 w.params).In base → TopF mean mg mb base → KtsDicts (frs outer) s.heap → pre s.heap → Room dp un lv →
    (∀ e h' tk', RaisedSN base s.heap outer e (.type cls) [] h' → s.heap.UpToSlots h' → E (.ref e) { s with heap := h', toks := tk' }) →
    wpAny (model PySem.Challenge.rw_nb0162_01.row.prog w) (Ar dp un gd outer) (call (.ref f) vs) Q E s
theorem enterX {w : World} {mean : ExcName → Option Value} {mg mb : Str → Option Value} {dp un : Nat} {gd : Option (List Code)} {outer : List Env} {base : Heap} {s : Shared} {Q E : Value → Shared → Prop}
    {name qual : Str} {params : Arguments} {body : List Stmt} {scope : Scope} {dV kV doc pm cdv ct oc : Value} {an od : Option Addr} {osl : Array (Option Value)} {f : Addr} {vs : List Value} (binds : List (Str × Value))
    (B : Below (Ar dp un gd outer) base outer s.heap) (X : (hd.heap_39 w.params).In s.heap) (T : TopF mean mg mb s.heap) (hroom : dp < recursionLimit)
    (ho : (hd.heap_39 w.params).lookup f = some ⟨oc, od, .func (fnOf name qual params body scope dV kV doc pm an cdv ct), osl⟩) (hcd : codeIn (hd.heap_39 w.params) cdv qual = true)
    (hbind : bindArgs (fnOf name qual params body scope dV kV doc pm an cdv ct) ⟨vs, []⟩ = pure binds) (hloc : (binds.all fun x => decide (scope.names.lookup x.1 = some .local)) = true)
    (hbl : apartB binds = true)
    (h : ∀ L h₁ tk u (E' : Value → Shared → Prop), PassesOwn (model PySem.Challenge.rw_nb0162_01.row.prog w) (Ar (dp + 1) (un + 3) gd (envOf qual scope L f cdv :: outer)) (envOf qual scope L f cdv) E' →
      (∀ x, PassesOwnAt (model PySem.Challenge.rw_nb0162_01.row.prog w) ((Ar (dp + 1) (un + 3) gd (envOf qual scope L f cdv :: outer)).mark x) (Ar (dp + 1) (un + 3) gd (envOf qual scope L f cdv :: outer)) (envOf qual scope L f cdv) E') →
      (∀ e s', wpAny (model PySem.Challenge.rw_nb0162_01.row.prog w) (Ar (dp + 1) (un + 3) gd (envOf qual scope L f cdv :: outer)) (leaving (envOf qual scope L f cdv) e) (fun _ s'' => E e s'') E s' → E' e s') →
      Fr s.heap L h₁ (ov binds u) → News s.heap L h₁ [] →
      wpAny (model PySem.Challenge.rw_nb0162_01.row.prog w) (Ar (dp + 1) (un + 3) gd (envOf qual scope L f cdv :: outer)) (execs body (envOf qual scope L f cdv))
        (fun fl s' => Q (match fl with | .ret v => v | _ => .none) s') E' { s with heap := h₁, toks := tk })
    (hcell : ∀ x ∈ scope.names, x.2 ≠ .cell) (hco : scope.isCoroutine = false) (hgen : scope.isGenerator = false) (hk : scope.kind = .function) :
    wpAny (model PySem.Challenge.rw_nb0162_01.row.prog w) (Ar dp un gd outer) (call (.ref f) vs) Q E s := by
  refine wpAny_call (codeAny_call_def (fd := fnOf name qual params body scope dV kV doc pm an cdv ct) (body := body) (binds := binds) hroom (X _ _ ho) rfl T.nolimit (codeRec_of X hcd) rfl (BindsTo.of_eq hbind) hcell (locs hloc) (fun h₁ hns hk₁ => ?_) hco hgen hk)
  exact h s.heap.objs.size h₁ _ _ _ PassesOwn.leaving (fun x => PassesOwnAt.leaving) (fun _ _ q => q) (Fr.ov ⟨hns, hk₁, Nat.le_refl _⟩ (binds_has (apartB_nodup hbl))) News.nil
theorem dicts_push {outer : List Env} {h₀ h : Heap} {L a : Addr} {m : Str → Option Value} {name : Str} {scope : Scope} {cd : Value} (D : KtsDicts (frs outer) h₀) (F : Fr h₀ L h m) : KtsDicts (frs (envOf name scope L a cd :: outer)) h := by
  intro b hb
  rcases kts_mem hb with rfl | hb
  · obtain ⟨o, es, ep, ho, hd, _⟩ := F.ns; exact ⟨o, es, ep, ho, hd⟩
  · obtain ⟨o, es, n, ho, hd⟩ := D b hb; exact ⟨o, es, n, F.keep _ _ ho, hd⟩
theorem turn_news {A₀ : Around} {base h₀ s h' g' g : Heap} {outer : List Env} {L a : Addr} {name : Str} {scope : Scope} {cd : Value} {news : List (Addr × Obj)}
    (B : Below A₀ base outer h₀) (N : News h₀ L s news) (T : KtsTurn (frs (envOf name scope L a cd :: outer)) s g') (st : g'.StaysIn h') (T' : KtsTurn (frs outer) h₀ g) : News g L h' news := by
  intro p hp
  obtain ⟨h1, h2, h3⟩ := N p hp
  refine ⟨st _ _ (T.other _ _ h1 fun hm => ?_), h2, T'.none_ _ h3⟩
  rcases kts_mem hm with e | e
  · exact h2 e
  · obtain ⟨o, ho, _⟩ := (B.frames.mem e).2
    rw [h3] at ho; cases ho
theorem turn_ground {A₀ : Around} {base h₀ s h' g' : Heap} {outer : List Env} {L a : Addr} {m : Str → Option Value} {name : Str} {scope : Scope} {cd : Value}
    (B : Below A₀ base outer h₀) (F : Fr h₀ L s m) (T : KtsTurn (frs (envOf name scope L a cd :: outer)) s g') (st : g'.StaysIn h') : ∃ g, KtsTurn (frs outer) h₀ g ∧ Fr g L h' m ∧ Below A₀ base outer g :=
  kts_ground (B := g') (name := name) (scope := scope) (a := a) (cd := cd) B F (fun b o e hm => T.other b o e hm) st fun b o e _ => by
    obtain ⟨sl, hs⟩ := T.up e
    exact ⟨sl, st _ _ hs⟩
theorem TellsX.use {w : World} {mean : ExcName → Option Value} {mg mb : Str → Option Value} {lv : Nat} {f : Addr} {vs : List Value} {pre : Heap → Prop} {R : Value → Heap → Heap → Prop}
    {A₀ : Around} {base h₀ : Heap} {outer : List Env} {dp un : Nat} {gd : Option (List Code)} {L a : Addr} {m : Str → Option Value} {name : Str} {scope : Scope} {cd : Value} {news : List (Addr × Obj)} {s : Shared} {Q E : Value → Shared → Prop}
    (C : TellsX w mean mg mb lv f vs pre R) (B : Below A₀ base outer h₀) (F : Fr h₀ L s.heap m) (X : (hd.heap_39 w.params).In base) (N : News h₀ L s.heap news) (T : TopF mean mg mb base) (D : KtsDicts (frs outer) h₀) (hk : scope.kind = .function) (hp : pre s.heap)
    (hd : Room dp un lv)
    (k : ∀ v g' g h' tk', KtsTurn (frs (envOf name scope L a cd :: outer)) s.heap g' → g'.StaysIn h' → KtsTurn (frs outer) h₀ g → Below A₀ base outer g → Fr g L h' m → News g L h' news → R v g' h' → Q v { s with heap := h', toks := tk' }) :
    wpAny (model PySem.Challenge.rw_nb0162_01.row.prog w) (Ar dp un gd (envOf name scope L a cd :: outer)) (call (.ref f) vs) Q E s :=
  C dp un gd _ base s Q E (below_here B F hk) X T (dicts_push D F) hp hd fun v g' h' tk' tu st r => by
    obtain ⟨g, t1, t2, t3⟩ := turn_ground B F tu st
    exact k v g' g h' tk' tu st t1 t3 t2 (turn_news B N tu st t1) r
theorem turn_new {h₀ s h' g' g : Heap} {outer : List Env} {L a b : Addr} {o : Obj} {m : Str → Option Value} {name : Str} {scope : Scope} {cd : Value} {news : List (Addr × Obj)}
    (F : Fr h₀ L s m) (F' : Fr g L h' m) (T : KtsTurn (frs (envOf name scope L a cd :: outer)) s g') (st : g'.StaysIn h') (T' : KtsTurn (frs outer) h₀ g) (N : News g L h' news) (hn : g'.get? b = none) (ho : h'.get? b = some o) (hd : ∀ es n, o.data ≠ .dict es n) : News g L h' ((b, o) :: news) :=
  News.more F' N ho hd (T'.none_ _ (by
    cases q : h₀.get? b with
    | none => rfl
    | some o' =>
      obtain ⟨sl, hs⟩ := T.up (F.keep _ _ q)
      rw [hn] at hs; cases hs))
/-- an exception that is new in this frame, and leaves it -/
theorem leave_newX {M : Model} {A : Around} {E : Value → Shared → Prop} {s' : Shared} {base g h : Heap} {outer : List Env} {L a e : Addr} {m : Str → Option Value} {name : Str} {scope : Scope} {cd : Value} {Q : Unit → Shared → Prop} {cls : Value}
    (K : Below A base outer g) (F : Fr g L h m) (hk' : ∀ b o, h.get? b = some o → s'.heap.get? b = some o) (hnew : h.get? e = none)
    (he : ∃ ob vs a0, s'.heap.get? e = some ob ∧ ob.cls = cls ∧ ob.data = .fields vs ∧ vs[0]? = some a0 ∧ vs[1]? = some .none)
    (hQ : ∀ h', RaisedSN base g outer e cls [] h' → g.UpToSlots h' → Q () { s' with heap := h' }) (hk : scope.kind = .function) :
    wpAny M (A.deeper (envOf name scope L a cd)) (leaving (envOf name scope L a cd) (.ref e)) Q E s' := by
  have K' := K.push (name := name) (a := a) (cd := cd) F hk
  have hin : ∀ env ∈ (envOf name scope L a cd :: outer), ∀ b, env.frame = some b → b ∈ (envOf name scope L a cd :: outer).filterMap (·.frame) := fun env he b hb => List.mem_filterMap.mpr ⟨env, he, hb⟩
  have st : base.StaysIn (hideAll h ((envOf name scope L a cd :: outer).filterMap (·.frame))) := fun b o q => hideAll_get _ (K'.stays b o q) fun hm => by
    rw [(K'.frames.mem hm).1] at q; cases q
  have sg : ∀ b o, g.get? b = some o → b ∉ outer.filterMap (·.frame) → (hideAll h ((envOf name scope L a cd :: outer).filterMap (·.frame))).get? b = some o := fun b o q nm => hideAll_get _ (F.keep b o q) fun hm => by
    rcases kts_mem hm with z | z
    · rw [z, kts_self F] at q; cases q
    · exact nm z
  have hen : (hideAll h ((envOf name scope L a cd :: outer).filterMap (·.frame))).get? e = none := by
    cases q : (hideAll h ((envOf name scope L a cd :: outer).filterMap (·.frame))).get? e with
    | none => rfl
    | some o => have := of_hideAll _ q; rw [hnew] at this; cases this
  obtain ⟨ob, vs, a0, he1, hc, hd, h0, h1⟩ := he
  refine wpAny_leaving_firstW (a0 := a0) K'.stack ((funFrames_hide K'.frames hin).of_keeps fun b o hb _ => ⟨o, hk' b o hb, rfl⟩) rfl he1 (fun b o hb => hk' b o (of_hideAll _ hb)) hen hd h1 h0 fun h' hL => ?_
  obtain ⟨k1, ⟨_, _, k2⟩, k3, k4⟩ := hL
  refine hQ h' ⟨_, a0, st, sg, (fun q hq => nomatch hq), k1, hen, k2, ?_⟩ (((Heap.UpToSlots.of_keeps F.keep).trans (Heap.UpToSlots.of_keeps hk')).trans k4)
  rw [← hc]; exact k3
theorem raised_turn {base G g h : Heap} {l : List Env} {e : Addr} {cls : Value} (T : KtsTurn (frs l) G g) (R : RaisedSN base g l e cls [] h) : RaisedSN base G l e cls [] h := by
  obtain ⟨B, a0, h1, h2, h3, h4⟩ := R
  exact ⟨B, a0, h1, fun b o e hm => h2 b o (T.other b o e hm) hm, (fun q hq => nomatch hq), h4⟩
theorem slots_turn {l : List Addr} {G g h : Heap} (T : KtsTurn l G g) (U : g.UpToSlots h) : G.UpToSlots h := fun b o e hn => by
  obtain ⟨sl, hs⟩ := T.up e
  obtain ⟨sl', hs'⟩ := U b _ hs hn
  exact ⟨sl', hs'⟩
/-- an exception in hand, its context none; fl: the frame that it is in flight in -/
structure HeldE (B : Heap) (l : List Env) (e : Addr) (X : String) (fl : Value) (h : Heap) : Prop where
  stays : B.StaysIn h
  frames : h.FunFrames B l
  new : B.get? e = none
  there : ∃ oe vs T oT ts, h.get? e = some oe ∧ oe.cls = .type X ∧ oe.data = .fields vs ∧ vs[1]? = some (.ref T) ∧ vs[2]? = some .none ∧ B.get? T = none ∧ T ≠ e ∧ h.get? T = some oT ∧ oT.data = .fields ts ∧ ts[3]? = some fl
theorem HeldE.at {B : Heap} {l : List Env} {e : Addr} {X : String} {fl : Value} {h : Heap} (H : HeldE B l e X fl h) : (∃ oc vc, h.get? e = some oc ∧ oc.data = .fields vc ∧ vc[2]? = some .none) := by
  obtain ⟨oe, vs, T, oT, ts, hoe, hoc, hod, _, h2, _⟩ := H.there
  exact ⟨oe, vs, hoe, hod, h2⟩
theorem HeldE.set {M : Model} {A : Around} {E : Value → Shared → Prop} {s : Shared} {B : Heap} {l : List Env} {e : Addr} {X : String} {fl : Value} {Q : Unit → Shared → Prop} (fr : Value) (H : HeldE B l e X fl s.heap) {T : Addr}
    (hT : ∃ oe vs, s.heap.get? e = some oe ∧ oe.data = .fields vs ∧ vs[1]? = some (.ref T))
    (hQ : ∀ h', HeldE B l e X fr h' → s.heap.UpToSlots h' → (∀ b, b ≠ T → h'.get? b = s.heap.get? b) → Q () { s with heap := h' }) : wpAny M A (setField (.ref T) 3 fr) Q E s := by
  obtain ⟨st, fr', hn, oe, vs, T', oT, ts, he, hc, hd, h1, h2, hT1, hTe, hoT, hdT, h3⟩ := H
  obtain ⟨oe', vs', he', hd', h1'⟩ := hT
  obtain rfl : oe = oe' := by rw [he] at he'; exact Option.some.inj he'
  obtain rfl : vs = vs' := by rw [hd] at hd'; exact Data.fields.inj hd'
  obtain rfl : T' = T := by rw [h1] at h1'; exact Value.ref.inj (Option.some.inj h1')
  have hsz : 3 < ts.size := (Array.getElem?_eq_some_iff.mp h3).1
  have other : ∀ b, b ≠ T' → (s.heap.update T' (Obj.mapFields (·.setIfInBounds 3 fr))).get? b = s.heap.get? b := fun b hb => Heap.get?_update_other _ _ (Ne.symm hb)
  have noRecord : ∀ b o, s.heap.get? b = some o → (∀ vs, o.data ≠ .fields vs) → b ≠ T' := fun b o hb hnf q => by
    rw [q, hoT] at hb; injection hb with hb; subst hb; exact hnf ts hdT
  refine wpAny_setField hoT hdT hsz (hQ _ ⟨fun b o hbo => (other b fun q => by rw [q, hT1] at hbo; cases hbo).trans (st b o hbo), fr'.of_keeps fun b o hb hnf => ⟨o, (other b (noRecord b o hb hnf)).trans hb, rfl⟩, hn, ?_⟩ (fun b o hb hnf => ⟨o.slots, (other b (noRecord b o hb hnf)).trans hb⟩) other)
  exact ⟨oe, vs, T', _, _, (other e (Ne.symm hTe)).trans he, hc, hd, h1, h2, hT1, hTe, Heap.get?_update_self _ hoT (Obj.isFreed_of_fields (Obj.data_mapFields hdT _)), Obj.data_mapFields hdT _, by simp [hsz]⟩
theorem HeldE.flight {M : Model} {A : Around} {E : Value → Shared → Prop} {s : Shared} {B : Heap} {l : List Env} {e : Addr} {X : String} {fl : Value} {Q : Unit → Shared → Prop} (H : HeldE B l e X fl s.heap)
    (hQ : ∀ h', HeldE B l e X .none h' → s.heap.UpToSlots h' → Q () { s with heap := h' }) : wpAny M A (setFlight (.ref e) none) Q E s := by
  obtain ⟨oe, vs, T, oT, ts, he, hc, hd, h1, _⟩ := H.there
  unfold setFlight
  refine wpAny_bind (wpAny_field he hd h1 ?_)
  rw [if_pos (show (Value.ref T != Value.none) = true from by simp)]
  exact HeldE.set .none H ⟨oe, vs, he, hd, h1⟩ fun h' H' u _ => hQ h' H' u
theorem note_core {M : Model} {A : Around} {E : Value → Shared → Prop} {s : Shared} {B : Heap} {env : Env} {outer : List Env} {L e : Addr} {X : String} {oe : Obj} {vs : Array Value} {head : Value} {hadNext : Bool} {Q : Unit → Shared → Prop}
    (hfr : A.frames = some (env :: outer)) (hl : s.heap.FunFrames B (env :: outer)) (hf : env.frame = some L) (he : s.heap.get? e = some oe) (hkb : B.StaysIn s.heap) (hen : B.get? e = none) (hc : oe.cls = .type X) (hd : oe.data = .fields vs) (h2 : vs[2]? = some .none)
    (hQ : ∀ h', HeldE B (env :: outer) e X (rawInt L) h' → s.heap.UpToSlots h' → Q () { s with heap := h' }) :
    wpAny M A (do let a ← frameOf env; let pl ← entryPlaceOf L hadNext; let b ← EntryCells.newEntry head a .none (rawInt L) .none pl; setField (.ref e) 1 b) Q E s := by
  have hene : e ∉ (env :: outer).filterMap (·.frame) := fun hm => by
    obtain ⟨_, o, ho, hnf⟩ := hl.mem hm
    rw [he] at ho; injection ho with ho; subst ho; exact hnf vs hd
  have hsz : 1 < vs.size := Nat.lt_of_succ_lt (Array.getElem?_eq_some_iff.mp h2).1
  refine wpAny_bind (wpAny_frameOf_fun hfr hl hf fun h₁ hs₁ => ?_)
  refine wpAny_bind (wpAny_entryPlaceOf fun pl hpl => ?_)
  unfold EntryCells.newEntry newFields
  refine wpAny_bind (wpAny_newObj_type ?_ (hpl.sizeOk5 _ _ _ _ _))
  have he₁ : h₁.get? e = some oe := (hs₁.2.1 e hene).trans he
  have kb₁ : B.StaysIn h₁ := fun b o hbo => (hs₁.2.1 b fun hm => by rw [(hl.mem hm).1] at hbo; cases hbo).trans (hkb b o hbo)
  generalize htb : ({ cls := .type "traceback", dict := none, data := .fields ([head, .ref L, .none, rawInt L, .none] ++ (if pl.isEmpty then List.replicate 6 Value.none else pl)).toArray } : Obj) = tb
  have htd : ∃ ts, tb.data = .fields ts ∧ ts[3]? = some (rawInt L) ∧ tb.isFreed = false := ⟨_, by rw [← htb], by simp, by rw [← htb]; rfl⟩
  clear htb
  obtain ⟨ts, htd, h3, hfree⟩ := htd
  have he₂ := Heap.get?_push_of_some (h := h₁) tb he₁
  have hTe : h₁.objs.size ≠ e := Nat.ne_of_gt (Heap.lt_size he₁)
  have hd₃ := Obj.data_mapFields hd (·.setIfInBounds 1 (Value.ref h₁.objs.size))
  have keep : ∀ b o, b ≠ e → h₁.get? b = some o → ((h₁.push tb).update e (Obj.mapFields (·.setIfInBounds 1 (Value.ref h₁.objs.size)))).get? b = some o := fun b o hbe hb => by
    rw [Heap.get?_update_other _ _ (Ne.symm hbe)]
    exact Heap.get?_push_of_some _ hb
  have noRecord : ∀ b o, s.heap.get? b = some o → (∀ vs, o.data ≠ .fields vs) → b ≠ e := fun b o hb hnf q => by
    rw [q, he] at hb; injection hb with hb; subst hb; exact hnf vs hd
  refine wpAny_setField he₂ hd hsz (hQ _ ?_ ?_)
  · refine ⟨fun b o hbo => keep b o (fun q => by rw [q, hen] at hbo; cases hbo) (kb₁ b o hbo), hl.of_keeps fun b o hb hnf => ?_, hen, ?_⟩
    · obtain ⟨sl, hs⟩ := hs₁.2.2 b o hb
      exact ⟨_, keep b _ (noRecord b o hb hnf) hs, rfl⟩
    · exact ⟨_, _, h₁.objs.size, _, _, Heap.get?_update_self _ he₂ (Obj.isFreed_of_fields hd₃), (Obj.cls_mapFields _ _).trans hc, hd₃, by simp [hsz], by rw [Array.getElem?_setIfInBounds_ne (by decide)]; exact h2, kb₁.fresh, hTe,
        (Heap.get?_update_other _ _ (Ne.symm hTe)).trans (Heap.get?_push_size h₁ hfree), htd, h3⟩
  · intro b o hb hnf
    obtain ⟨sl, hs⟩ := hs₁.2.2 b o hb
    exact ⟨sl, keep b _ (noRecord b o hb hnf) hs⟩
theorem note_first {M : Model} {A : Around} {E : Value → Shared → Prop} {s : Shared} {B : Heap} {env : Env} {outer : List Env} {L e : Addr} {X : String} {oe : Obj} {vs : Array Value} {Q : Unit → Shared → Prop}
    (hfr : A.frames = some (env :: outer)) (hl : s.heap.FunFrames B (env :: outer)) (hf : env.frame = some L) (he : s.heap.get? e = some oe) (hkb : B.StaysIn s.heap) (hen : B.get? e = none) (hc : oe.cls = .type X) (hd : oe.data = .fields vs) (h1 : vs[1]? = some .none) (h2 : vs[2]? = some .none)
    (hQ : ∀ h', HeldE B (env :: outer) e X (rawInt L) h' → s.heap.UpToSlots h' → Q () { s with heap := h' }) : wpAny M A (noteFrame (.ref e) env) Q E s := by
  unfold noteFrame
  simp only [hf]
  refine wpAny_bind (wpAny_field he hd h1 ?_)
  rw [if_neg (by decide)]
  exact note_core hfr hl hf he hkb hen hc hd h2 hQ
theorem note_on {M : Model} {A : Around} {E : Value → Shared → Prop} {s : Shared} {B : Heap} {env : Env} {outer : List Env} {L e : Addr} {X : String} {Q : Unit → Shared → Prop}
    (hfr : A.frames = some (env :: outer)) (hf : env.frame = some L) (H : HeldE B (env :: outer) e X .none s.heap)
    (hQ : ∀ h', HeldE B (env :: outer) e X (rawInt L) h' → s.heap.UpToSlots h' → Q () { s with heap := h' }) : wpAny M A (noteFrame (.ref e) env) Q E s := by
  obtain ⟨oe, vs, T, oT, ts, he, hc, hd, h1, h2, hT, hTe, hoT, hdT, h3⟩ := H.there
  unfold noteFrame
  simp only [hf]
  refine wpAny_bind (wpAny_field he hd h1 ?_)
  rw [if_pos (show (Value.ref T != Value.none) = true from by simp)]
  refine wpAny_bind (wpAny_field hoT hdT h3 ?_)
  rw [if_neg (show ¬ ((Value.none == rawInt L) = true) from by simp [rawInt])]
  refine wpAny_bind (HeldE.set .none H ⟨oe, vs, he, hd, h1⟩ fun h' H' u ot => ?_)
  exact note_core (s := { s with heap := h' }) hfr H'.frames hf ((ot e (Ne.symm hTe)).trans he) H'.stays H'.new hc hd h2 fun h'' H'' u' => hQ h'' H'' (u.trans u')
theorem caught_hereX {prog : Program} {w : World} {A₀ : Around} {E : Value → Shared → Prop} {s' : Shared} {base g h : Heap} {outer : List Env} {L a e : Addr} {m : Str → Option Value} {name : Str} {scope : Scope} {cd : Value}
    {b₀ : Stmt} {suite : List Stmt} {pos np : Pos} {rest : List ExceptHandler} {Q : Flow → Shared → Prop} {news : List (Addr × Obj)} {KF : Frag}
    {p : Program} {loose : List Str} {mean : ExcName → Option Value} {mg mb : Str → Option Value} {x : Str} {X T' : String}
    (K : Below A₀ base outer g) (F : Fr g L h m) (N : News g L h news) (hx : Heap.NewExc h s'.heap e X) (XB : KF.In base) (TB : Top p loose mean mg mb base)
    (ex : nsIn KF mainGlobals x = some none) (hv : bootBuiltins x = some (.type T')) (hn' : x ≠ "__name__")
    (hexc : isSubtype (.type T') (.type "BaseException") = pure true) (hnt : isSubtype (.type ((Manifest.find? T').elim "type" fun y => y.metatype)) (.type "tuple") = pure false) (hsub : isSubtype (.type X) (.type T') = pure true)
    (k : ∀ h' g', KtsTurn (frs outer) g g' → Fr g' L h' m → News g' L h' news → Below A₀ base outer g' → (∃ oc vc, h'.get? e = some oc ∧ oc.data = .fields vc ∧ vc[2]? = some .none) →
      wpAny (model prog w) ((A₀.deeper (envOf name scope L a cd)).mark (some (.ref e))) (execs (b₀ :: suite) (envOf name scope L a cd)) Q E { s' with heap := h' })
    (hk : scope.kind = .function) (hxk : (envOf name scope L a cd).kindOf x = some .globalImplicit) (hd : (x == ("__debug__" : Str)) = false)
    (hE : PassesOwnAt (model prog w) ((A₀.deeper (envOf name scope L a cd)).mark (some (.ref e))) (A₀.deeper (envOf name scope L a cd)) (envOf name scope L a cd) E) :
    wpAny (model prog w) (A₀.deeper (envOf name scope L a cd)) (noteFrame (.ref e) (envOf name scope L a cd))
      (fun _ s₂ => wpAny (model prog w) (A₀.deeper (envOf name scope L a cd)) (setFlight (.ref e) none) (fun _ s₃ =>
        wpAny (model prog w) (A₀.deeper (envOf name scope L a cd)) (handleBy (.ref e) (envOf name scope L a cd) (.ExceptHandler (some (.Name x np)) none (b₀ :: suite) pos :: rest)) Q E s₃) E s₂) E s' := by
  have K' := K.push (name := name) (a := a) (cd := cd) F hk
  have hin : ∀ env ∈ (envOf name scope L a cd :: outer), ∀ b, env.frame = some b → b ∈ (envOf name scope L a cd :: outer).filterMap (·.frame) := fun env he b hb => List.mem_filterMap.mpr ⟨env, he, hb⟩
  have hB : ∀ b o, h.get? b = some o → b ∉ frs (envOf name scope L a cd :: outer) → (hideAll h (frs (envOf name scope L a cd :: outer))).get? b = some o := fun b o q nm => hideAll_get _ q nm
  have hen : (hideAll h (frs (envOf name scope L a cd :: outer))).get? e = none := by
    cases q : (hideAll h (frs (envOf name scope L a cd :: outer))).get? e with
    | none => rfl
    | some o => have := of_hideAll _ q; rw [hx.new] at this; cases this
  obtain ⟨ob, tt, he1, hc, hdd⟩ := hx.there
  have usm : h.UpToSlots s'.heap := Heap.UpToSlots.of_keeps hx.keeps
  refine note_first (B := hideAll h (frs (envOf name scope L a cd :: outer))) K'.stack ((funFrames_hide K'.frames hin).of_keeps fun b o hb _ => ⟨o, hx.keeps b o hb, rfl⟩) rfl he1 (fun b o hb => hx.keeps b o (of_hideAll _ hb)) hen hc hdd rfl rfl fun h4 H4 u4 => ?_
  refine H4.flight fun h5 H5 u5 => ?_
  have u5 := usm.trans (u4.trans u5)
  obtain ⟨g₅, T₅, F₅, K₅⟩ := kts_ground K F hB H5.stays u5
  obtain ⟨oe, vs, T, oT, ts, hoe, hoc, _⟩ := H5.there
  refine wpAny_handleBy_builtin (X := X) (T := T') (b := true) hexc hnt hsub (name_B F₅ (XB.keeps K₅.stays) (topRead_of (TB.keeps K₅.stays)) ex hv hn' ⟨rfl, ⟨oe, hoe, hoc⟩, ?_⟩ hk hxk hd)
  refine H5.flight fun h6 H6 u6 => ?_
  obtain ⟨g₆, T₆, F₆, K₆⟩ := kts_ground K F hB H6.stays (u5.trans u6)
  refine wpAny_passesOwnAt hE (k h6 g₆ T₆ F₆ (fun q hq => ?_) K₆ H6.at)
  obtain ⟨n1, n2, n3⟩ := N q hq
  refine ⟨H6.stays _ _ (hB _ _ n1 fun hm => ?_), n2, T₆.none_ _ n3⟩
  rcases kts_mem hm with z | z
  · exact n2 z
  · obtain ⟨o, ho, _⟩ := (K.frames.mem z).2
    rw [n3] at ho; cases ho
/-- an exception in flight, its context none -/
def RaisedE (base G : Heap) (l : List Env) (e : Addr) (X : String) (h : Heap) : Prop := ∃ B, base.StaysIn B ∧ (∀ b o, G.get? b = some o → b ∉ frs l → B.get? b = some o) ∧ HeldE B l e X .none h
theorem leave_newE {M : Model} {A : Around} {E : Value → Shared → Prop} {s' : Shared} {base g h : Heap} {outer : List Env} {L a e : Addr} {m : Str → Option Value} {name : Str} {scope : Scope} {cd : Value} {Q : Unit → Shared → Prop} {X : String}
    (K : Below A base outer g) (F : Fr g L h m) (hx : Heap.NewExc h s'.heap e X)
    (hQ : ∀ h', RaisedE base g outer e X h' → g.UpToSlots h' → Q () { s' with heap := h' }) (hk : scope.kind = .function) :
    wpAny M (A.deeper (envOf name scope L a cd)) (leaving (envOf name scope L a cd) (.ref e)) Q E s' := by
  have K' := K.push (name := name) (a := a) (cd := cd) F hk
  have hin : ∀ env ∈ (envOf name scope L a cd :: outer), ∀ b, env.frame = some b → b ∈ (envOf name scope L a cd :: outer).filterMap (·.frame) := fun env he b hb => List.mem_filterMap.mpr ⟨env, he, hb⟩
  have hen : (hideAll h (frs (envOf name scope L a cd :: outer))).get? e = none := by
    cases q : (hideAll h (frs (envOf name scope L a cd :: outer))).get? e with
    | none => rfl
    | some o => have := of_hideAll _ q; rw [hx.new] at this; cases this
  obtain ⟨ob, tt, he1, hc, hdd⟩ := hx.there
  unfold leaving
  refine wpAny_bind (note_first (B := hideAll h (frs (envOf name scope L a cd :: outer))) K'.stack ((funFrames_hide K'.frames hin).of_keeps fun b o hb _ => ⟨o, hx.keeps b o hb, rfl⟩) rfl he1 (fun b o hb => hx.keeps b o (of_hideAll _ hb)) hen hc hdd rfl rfl fun h4 H4 u4 => ?_)
  refine H4.flight fun h5 H5 u5 => ?_
  obtain ⟨k1, ⟨_, _, k2⟩, k3, k4⟩ := H5
  refine hQ h5 ⟨_, fun b o q => hideAll_get _ (K'.stays b o q) fun hm => ?_, fun b o q nm => hideAll_get _ (F.keep b o q) fun hm => ?_, ⟨k1, k2, k3, k4⟩⟩ (((Heap.UpToSlots.of_keeps F.keep).trans (Heap.UpToSlots.of_keeps hx.keeps)).trans (u4.trans u5))
  · rw [(K'.frames.mem hm).1] at q; cases q
  · rcases kts_mem hm with z | z
    · rw [z, kts_self F] at q; cases q
    · exact nm z
theorem caught_onE {prog : Program} {w : World} {A₀ : Around} {E : Value → Shared → Prop} {s' : Shared} {base g G : Heap} {outer : List Env} {L a e : Addr} {m : Str → Option Value} {name : Str} {scope : Scope} {cd : Value}
    {b₀ : Stmt} {suite : List Stmt} {pos np : Pos} {rest : List ExceptHandler} {Q : Flow → Shared → Prop} {KF : Frag}
    {p : Program} {loose : List Str} {mean : ExcName → Option Value} {mg mb : Str → Option Value} {x : Str} {X T' : String}
    (R : RaisedE base G (envOf name scope L a cd :: outer) e X s'.heap) (F : Fr g L G m) (K : Below A₀ base outer g) (hsm : G.UpToSlots s'.heap) (XB : KF.In base) (TB : Top p loose mean mg mb base)
    (ex : nsIn KF mainGlobals x = some none) (hv : bootBuiltins x = some (.type T')) (hn' : x ≠ "__name__")
    (hexc : isSubtype (.type T') (.type "BaseException") = pure true) (hnt : isSubtype (.type ((Manifest.find? T').elim "type" fun y => y.metatype)) (.type "tuple") = pure false) (hsub : isSubtype (.type X) (.type T') = pure true)
    (k : ∀ h' g', KtsTurn (frs outer) g g' → Fr g' L h' m → Below A₀ base outer g' → (∃ oc vc, h'.get? e = some oc ∧ oc.data = .fields vc ∧ vc[2]? = some .none) →
      wpAny (model prog w) ((A₀.deeper (envOf name scope L a cd)).mark (some (.ref e))) (execs (b₀ :: suite) (envOf name scope L a cd)) Q E { s' with heap := h' })
    (hk : scope.kind = .function) (hxk : (envOf name scope L a cd).kindOf x = some .globalImplicit) (hd : (x == ("__debug__" : Str)) = false)
    (hE : PassesOwnAt (model prog w) ((A₀.deeper (envOf name scope L a cd)).mark (some (.ref e))) (A₀.deeper (envOf name scope L a cd)) (envOf name scope L a cd) E) :
    wpAny (model prog w) (A₀.deeper (envOf name scope L a cd)) (noteFrame (.ref e) (envOf name scope L a cd))
      (fun _ s₂ => wpAny (model prog w) (A₀.deeper (envOf name scope L a cd)) (setFlight (.ref e) none) (fun _ s₃ =>
        wpAny (model prog w) (A₀.deeper (envOf name scope L a cd)) (handleBy (.ref e) (envOf name scope L a cd) (.ExceptHandler (some (.Name x np)) none (b₀ :: suite) pos :: rest)) Q E s₃) E s₂) E s' := by
  obtain ⟨B, hB1, hB, H⟩ := R
  refine note_on (Around.frames_deeper K.stack) rfl H fun h4 H4 u4 => ?_
  refine H4.flight fun h5 H5 u5 => ?_
  have u5 := hsm.trans (u4.trans u5)
  obtain ⟨g₅, T₅, F₅, K₅⟩ := kts_ground K F hB H5.stays u5
  obtain ⟨oe, vs, T, oT, ts, hoe, hoc, _⟩ := H5.there
  refine wpAny_handleBy_builtin (X := X) (T := T') (b := true) hexc hnt hsub (name_B F₅ (XB.keeps K₅.stays) (topRead_of (TB.keeps K₅.stays)) ex hv hn' ⟨rfl, ⟨oe, hoe, hoc⟩, ?_⟩ hk hxk hd)
  refine H5.flight fun h6 H6 u6 => ?_
  obtain ⟨g₆, T₆, F₆, K₆⟩ := kts_ground K F hB H6.stays (u5.trans u6)
  exact wpAny_passesOwnAt hE (k h6 g₆ T₆ F₆ K₆ H6.at)

theorem bytes_out {prog : Program} {w : World} {A : Around} {E : Value → Shared → Prop} {s : Shared} {value slice : Expr} {x : List UInt8} {i : Int} {t ui : Tok} {Q : Value → Shared → Prop} (h0 : (x.length : Int) ≤ i) (h1 : i < 100000) (hh : A.handled = none)
    (hE : ∀ h' tk e, Heap.NewExc s.heap h' e "IndexError" → E (.ref e) { s with heap := h', toks := tk })
    (hs : subscripted slice false (.bytes x.toArray t) (.int i ui) = operate [.bytes x.toArray t, .int i ui] (getItem (.bytes x.toArray t) (.int i ui)))
    (ht : ∀ r, letTemporaryGo value (.bytes x.toArray t) r = pure ()) : wpAny (model prog w) A (subscriptTail value slice (.bytes x.toArray t) (.int i ui)) Q E s := by
  refine tail_of_ItemOn ⟨"bytes", _, FB.slot_bytes_getitem.lookup, typeIs_bytes _ _ _, wpAny_getItem_slot (typeIs_bytes _ _ _) (by decide) FB.slot_bytes_getitem (wpAny_call_entry FB.slot_bytes_getitem (typeIs_bytes _ _ _) FB.entry_bytes_getitem ?_ (FB.args_bytes_getitem_2 _ _))⟩ hs ht
  show wpAny _ _ (Builtin.Bytes.payload (.bytes x.toArray t) >>= fun r => _) _ _ s
  refine wpAny_bind (wpAny_of_eq (a := x.toArray) rfl ?_)
  show wpAny _ _ (Builtin.Bytes.subscript? (.int i ui) >>= fun r => _) _ _ s
  refine wpAny_bind ?_
  unfold Builtin.Bytes.subscript?
  refine wpAny_bind (wpAny_specialOf (typeIs_int s i ui) F.slot_int_index.lookup ?_)
  show wpAny _ _ (if (!Builtin.Bytes.fitsIndex i) = true then _ else pure (some i)) _ E s
  have hr : Builtin.Bytes.fitsIndex i = true := by simp only [Builtin.Bytes.fitsIndex, Bool.and_eq_true, decide_eq_true_eq]; omega
  rw [hr]
  refine wpAny_pure ?_
  show wpAny _ _ (match (seqIndex? i x.toArray.size).bind (x.toArray[·]?) with | some x => retInt x.toNat | none => _) _ E s
  have hn : (seqIndex? i x.toArray.size).bind (x.toArray[·]?) = none := by
    have hn : ¬ i < 0 := by omega
    have : seqIndex? i x.toArray.size = none := by simp [seqIndex?, hn]; omega
    rw [this]; rfl
  rw [hn]
  exact wpAny_bind (wpAny_rule (wpAny_bind (wpAny_raiseErrorWords plainExc_IndexError hh hE)))
theorem while_ruleW {prog : Program} {w : World} {A : Around} {E : Value → Shared → Prop} {Q : Flow → Shared → Prop} {s : Shared} {env : Env} {h₀ : Heap} {L : Addr} {σ : Type} {test : Expr} {body : List Stmt} {pos : Pos} {m₀ : Str → Option Value} {news : List (Addr × Obj)}
    (I : σ → Prop) (led : σ → List (Addr × Obj)) (loc : σ → List (Str × Dv)) (μ : σ → Nat) (c₀ : σ)
    (F : Fr h₀ L s.heap m₀) (N : News h₀ L s.heap news) (hm : HasD m₀ (loc c₀)) (hn : ∀ p ∈ led c₀, p ∈ news) (hI : I c₀)
    (turn : ∀ (c : σ) (u : Str → Option Value) (T : Nat → Tok) (h : Heap) (tk : Nat) (W : Flow → Shared → Prop), (∀ v s₃, Q (.ret v) s₃ → W (.ret v) s₃) →
      (∀ c' h' tk' m' news', Fr h₀ L h' m' → News h₀ L h' news' → (∀ p ∈ led c', p ∈ news') → HasD m' (loc c') → I c' → μ c' < μ c → W .next { s with heap := h', toks := tk' }) →
      I c → Fr h₀ L h (ov (vals (loc c) T) u) → News h₀ L h (led c) →
      wpAny (model prog w) A (isTrue test env (eval test env)) (fun b s₂ => if b = true then wpAny (model prog w) A (execs body env) W E s₂ else Q .next s₂) E { s with heap := h, toks := tk })
    (hE : PassesOwn (model prog w) A env E) :
    wpAny (model prog w) A (exec (.While test body [] pos) env) Q E s :=
  while_rule I led loc μ c₀ F N hm hn hI (fun c u T h tk i f n => turn c u T h tk (WPost h₀ L s I led loc μ Q c) (fun _ _ q => q) (fun c' h' tk' m' news' f n a b c d => ⟨c', h', tk', m', news', rfl, f, n, a, b, c, d⟩) i f n) hE
structure UdeArgs (c : Addr) (E : Value → Shared → Prop) (vs : List Value) (s₂ : Shared) : Prop where
  args : ∃ enc reason obj i j t1 t2 t3 t4 t5, vs = [.str enc t1, .bytes obj t2, .int i t3, .int j t4, .str reason t5] ∧ (0 ≤ i ∧ i < 1000) ∧ 0 ≤ j ∧ j < 1000
  ctx : ∃ oc vc, s₂.heap.get? c = some oc ∧ oc.data = .fields vc ∧ vc[2]? = some .none
  go : ∀ h' e, (∀ b o, s₂.heap.get? b = some o → h'.get? b = some o) → s₂.heap.get? e = none → (∃ ob vs a0, h'.get? e = some ob ∧ ob.cls = .type "UnicodeDecodeError" ∧ ob.data = .fields vs ∧ vs[0]? = some a0 ∧ vs[1]? = some .none) → E (.ref e) { s₂ with heap := h' }
/-- raise UnicodeDecodeError(..) in a clause -/
theorem raise_ude {prog : Program} {w : World} {A : Around} {E : Value → Shared → Prop} {s : Shared} {env : Env} {c : Addr} {x : Str} {np cpos pos : Pos} {e₀ : Expr} {rest : List Expr} {Q : Flow → Shared → Prop} (hh : A.handled = some (.ref c))
    (h : wpAny (model prog w) A (eval (.Name x np) env) (fun f s₁ => f = .type "UnicodeDecodeError" ∧ wpAny (model prog w) A (spliced (backTo cpos (starEach (e₀ :: rest) env)))
      (UdeArgs c E) E s₁) E s)
    (he : starEach (e₀ :: rest) env = (false, eval e₀ env) :: starEach rest env) (hplain : (backTo cpos (starEach rest env)).any (·.1) = false) :
    wpAny (model prog w) A (exec (.Raise (some (.Call (.Name x np) (e₀ :: rest) [] cpos)) none pos) env) Q E s := by
  rw [arm_exec_Raise]
  show wpAny _ A (do standAt pos; raiseStmt env (some (do let v ← eval (.Call (.Name x np) (e₀ :: rest) [] cpos) env; standAt pos; pure v)) none) Q E s
  refine wpAny_bind (wpAny_standAt (ude_raise_in hh (wpAny_bind ?_)))
  refine wpAny_Call_ofName (wpAny_mono h (fun f s₁ h₁ => ?_) fun _ _ y => y)
  obtain ⟨rfl, h₁⟩ := h₁
  refine callWith_excType (by rw [he]; show (false || (backTo cpos (starEach rest env)).any (·.1)) = false; rw [hplain]; rfl) ?_
  rw [he] at h₁ ⊢
  refine Calls.evalArgs_plain (wpAny_mono h₁ (fun vs s₂ h₂ => ?_) fun _ _ y => y)
  obtain ⟨⟨enc, reason, obj, i, j, t1, t2, t3, t4, t5, rfl, hi, hj⟩, ⟨oc, vc, hc, hcd, hc2⟩, hE⟩ := h₂
  obtain ⟨hp, g, d, tk, os⟩ := s₂
  refine ude_call hi hj fun h' e hm => wpAny_bind (wpAny_standAt (wpAny_pure ⟨e, rfl, hm.there, fun q => ?_, ⟨oc, vc, hm.keeps _ _ hc, hcd, hc2⟩, fun h'' hk ht => hE h'' e (fun b o hb => hk b o (fun q => ?_) (hm.keeps b o hb)) hm.new ht⟩))
  · have := hm.new; rw [← q, hc] at this; cases this
  · have := hm.new; rw [← q, hb] at this; cases this

/-- the numerals of several numbers, one behind the other -/
def encAll (sg : Int → UInt8) (bl : Int) : Nat → Int → List Int → List UInt8
  | _, _, [] => []
  | k, bias, N :: r => (encD bias 8 0 N).map sg ++ encAll sg bl (k + 1) (adaptv N (k == 0) (bl + k + 1)) r
structure Lay where
  txt : List Nat
  code : Int
  pos : Int
def lstep (st : Lay) (N : Int) : Lay :=
  let q := st.pos + (N + 1)
  let n := (st.txt.length : Int) + 1
  let p := (q.fmod n)
  let c := st.code + q.fdiv n
  ⟨st.txt.take p.toNat ++ [c.toNat] ++ st.txt.drop p.toNat, c, p⟩
def strOf (l : List Nat) : Str := ⟨l.toArray⟩
theorem encD_ne (bias : Int) (f : Nat) (j N : Int) : encD bias (f + 1) j N ≠ [] := by
  rw [encD]; split <;> simp
theorem lstep_len (st : Lay) (N : Int) : (lstep st N).txt.length = st.txt.length + 1 := by
  unfold lstep; simp; omega
theorem adaptv_bounds {d nc : Int} {first : Bool} (hd : 0 ≤ d ∧ d < 2000) (hn : 1 ≤ nc) : 0 ≤ adaptv d first nc ∧ adaptv d first nc ≤ 72 := by
  unfold adaptv
  have h1 := fdiv_bounds hd.1 (b := 700) (by omega)
  have h2 := fdiv_bounds hd.1 (b := 2) (by omega)
  have h3 := fdiv_bounds h1.1 hn
  have h4 := fdiv_bounds h2.1 hn
  have key : ∀ x : Int, 0 ≤ x → 0 ≤ (36 * x).fdiv (x + 38) ∧ (36 * x).fdiv (x + 38) ≤ 36 := by
    intro x hx
    rw [Int.fdiv_eq_ediv_of_nonneg _ (by omega)]
    refine ⟨Int.ediv_nonneg (by omega) (by omega), ?_⟩
    have := Int.ediv_le_ediv (c := x + 38) (by omega) (show 36 * x ≤ 36 * (x + 38) by omega)
    rw [Int.mul_ediv_cancel _ (by omega)] at this
    exact this
  dsimp only
  generalize hq : (if first = true then d.fdiv 700 else d.fdiv 2) + (if first = true then d.fdiv 700 else d.fdiv 2).fdiv nc = q
  have hq0 : 0 ≤ q := by rw [← hq]; cases first <;> simp <;> omega
  have hq1 := fdiv_bounds hq0 (b := 35) (by omega)
  have k1 := key q hq0
  have k2 := key (q.fdiv 35) hq1.1
  split <;> omega
theorem encD_len (bias : Int) : ∀ (f : Nat) (j N : Int), (encD bias f j N).length ≤ f
  | 0, _, _ => by simp [encD]
  | f + 1, j, N => by
    rw [encD]; split
    · simp
    · simp only [List.length_cons]; have := encD_len bias f (j + 1) ((N - tval j bias).fdiv (36 - tval j bias)); omega
theorem encAll_len (sg : Int → UInt8) (bl : Int) : ∀ (ns : List Int) (k : Nat) (bias : Int), (encAll sg bl k bias ns).length ≤ 8 * ns.length
  | [], _, _ => by simp [encAll]
  | N :: r, k, bias => by
    rw [encAll]
    have h1 := encD_len bias 8 0 N
    have h2 := encAll_len sg bl r (k + 1) (adaptv N (k == 0) (bl + k + 1))
    simp only [List.length_append, List.length_map, List.length_cons]
    omega

theorem setup_F1 : True := by
  k_with "call ref" => (k_here; (with_reducible show wpAny _ _ (call (Value.ref 21) _) _ _ _); k_dflt (refine' Tells.useI ?z1 ?z2 ?z3 ?z4 ?z5 ?z6 ?z7 ?z8 ?z9 ?_; (case z2 => assumption); (case z3 => k_asm); (case z4 => assumption); (case z5 => k_asm); (case z6 => assumption); (case z7 => exact rfl); (case z1 => exact (T_tells _ _ _ _ _ _ _ _ (by first | assumption | omega) (by first | assumption | omega))); (case z8 => exact trivial); (case z9 => exact (Room.down (by assumption) rfl))); intro t' h' tk' F' N'; (try dsimp only); (try k_sweep))
  trivial
abbrev tupObj (l : List Value) : Obj := { cls := .type "tuple", data := .seq l.toArray }
structure DecS where
  f : Nat
  e : Int
  r : Int
  w : Int
  j : Int
  n : Int
structure DecP where
  x : List UInt8
  pre : List UInt8
  post : List UInt8
  N : Int
  bias : Int
/-- what holds of the reading between its turns -/
structure DecI (P : DecP) (c : DecS) : Prop where
  at_ : ∃ pre', P.x = pre' ++ ((encD P.bias (c.f + 1) c.j c.n).map up ++ P.post) ∧ (pre'.length : Int) = c.e
  len : c.e + (encD P.bias (c.f + 1) c.j c.n).length = P.pre.length + (encD P.bias 8 0 P.N).length
  val : c.r + c.w * c.n = P.N
  r0 : 0 ≤ c.r
  w1 : 1 ≤ c.w
  w2 : c.w ≤ 70000
  n0 : 0 ≤ c.n
  n1 : c.n < 2000
  nf : c.n < 10 ^ c.f
  jf : c.j + c.f = 7
  j0 : 0 ≤ c.j
def Letter (ch : Int) : Prop := 65 ≤ ch ∧ ch ≤ 90
def Figure (ch : Int) : Prop := 48 ≤ ch ∧ ch ≤ 57
/-- what one turn of the reading finds -/
structure DecT (P : DecP) (c : DecS) (ch : Int) : Prop where
  is : (((P.x.getD c.e.toNat 0).toNat : Nat) : Int) = ch
  e0 : 0 ≤ c.e
  e1 : c.e < P.x.length
  kind : (65 ≤ ch ∧ ch ≤ 90) ∨ (48 ≤ ch ∧ ch ≤ 57)
  last : ∀ dg, (65 ≤ ch ∧ dg = ch - 65) ∨ (ch ≤ 57 ∧ dg = ch - 22) → dg < tval c.j P.bias → c.e + 1 = P.pre.length + (encD P.bias 8 0 P.N).length ∧ c.r + dg * c.w = P.N
  next : ∀ dg, (65 ≤ ch ∧ dg = ch - 65) ∨ (ch ≤ 57 ∧ dg = ch - 22) → ¬ dg < tval c.j P.bias → ∃ f' n', DecI P ⟨f', c.e + 1, c.r + dg * c.w, c.w * (36 - tval c.j P.bias), c.j + 1, n'⟩ ∧ n'.toNat < c.n.toNat
theorem dec_next {f : Nat} {n t w r N d : Int} (htv : 1 ≤ t ∧ t ≤ 26) (h2 : t ≤ n) (h3 : d = t + (n - t).fmod (36 - t)) (hnf : n < 10 ^ f) (hval : r + w * n = N) (hN : N < 2000) (hr : 0 ≤ r) (hw : 1 ≤ w) (hn1 : n < 2000) :
    ∃ f', f = f' + 1 ∧ r + d * w + w * (36 - t) * (n - t).fdiv (36 - t) = N ∧ 0 ≤ r + d * w ∧ 1 ≤ w * (36 - t) ∧ w * (36 - t) ≤ 70000 ∧ 0 ≤ (n - t).fdiv (36 - t) ∧ (n - t).fdiv (36 - t) < 2000 ∧ (n - t).fdiv (36 - t) < 10 ^ f' ∧ (n - t).fdiv (36 - t) < n := by
  have hs := enc_step htv h2
  rw [← h3] at hs
  clear h3
  generalize (n - t).fdiv (36 - t) = q at *
  have hf1 : f ≠ 0 := by
    rintro rfl
    have : n < 1 := hnf
    omega
  obtain ⟨f', rfl⟩ : ∃ f', f = f' + 1 := ⟨f - 1, by omega⟩
  have e1 : w * n = d * w + w * (36 - t) * q := by
    conv => lhs; rw [hs.2.2.2.2, Int.mul_add, ← Int.mul_assoc, Int.mul_comm w d]
  have e3 : 0 ≤ d * w := Int.mul_nonneg (by omega) (by omega)
  have e4 : w * 1 ≤ w * n := Int.mul_le_mul_of_nonneg_left (by omega) (by omega)
  have e5 : 1 * 1 ≤ w * (36 - t) := Int.mul_le_mul hw (by omega) (by omega) (by omega)
  have e6 : w * (36 - t) ≤ w * 35 := Int.mul_le_mul_of_nonneg_left (by omega) (by omega)
  have e7 : (10 : Int) ^ (f' + 1) = 10 ^ f' * 10 := rfl
  rw [e7] at hnf
  generalize w * (36 - t) * q = B at *
  generalize w * (36 - t) = C at *
  generalize w * n = D at *
  generalize d * w = A at *
  generalize (10 : Int) ^ f' = T at *
  exact ⟨f', rfl, by omega, by omega, by omega, by omega, by omega, by omega, by omega, by omega⟩
theorem dec_turn {P : DecP} {c : DecS} (hN : P.N < 2000) (I : DecI P c) : ∃ ch, DecT P c ch := by
  obtain ⟨f, e, r, w, j, n⟩ := c
  obtain ⟨⟨pre', hx', he'⟩, hlen, hval, hr, hw1, hw2, hn0, hn1, hnf, hjf, hj⟩ := I
  dsimp only at *
  have htv := tval_bounds j P.bias
  obtain ⟨d, ds, hds, hd0, hd1, hcase⟩ : ∃ d ds, encD P.bias (f + 1) j n = d :: ds ∧ 0 ≤ d ∧ d < 36 ∧ ((d < tval j P.bias ∧ d = n ∧ ds = []) ∨ (tval j P.bias ≤ d ∧ tval j P.bias ≤ n ∧ d = tval j P.bias + (n - tval j P.bias).fmod (36 - tval j P.bias) ∧ ds = encD P.bias f (j + 1) ((n - tval j P.bias).fdiv (36 - tval j P.bias)))) := by
    rw [encD]
    by_cases hlt : n < tval j P.bias
    · rw [if_pos hlt]; exact ⟨_, _, rfl, hn0, by omega, .inl ⟨hlt, rfl, rfl⟩⟩
    · rw [if_neg hlt]
      have hs := enc_step htv (N := n) (by omega)
      exact ⟨_, _, rfl, by omega, by omega, .inr ⟨by omega, by omega, rfl, rfl⟩⟩
  have hlx : e < P.x.length := by rw [hx', hds]; simp; omega
  have hch : (((P.x.getD e.toNat 0).toNat : Nat) : Int) = if d < 26 then 65 + d else 22 + d := by
    have : P.x.getD e.toNat 0 = up d := by rw [hx', hds, ← he']; simp
    rw [this, up_val hd0 hd1]
  have hdg : ∀ dg, (65 ≤ (if d < 26 then 65 + d else 22 + d) ∧ dg = (if d < 26 then 65 + d else 22 + d) - 65) ∨ ((if d < 26 then 65 + d else 22 + d) ≤ 57 ∧ dg = (if d < 26 then 65 + d else 22 + d) - 22) → dg = d := by
    intro dg h
    split at h <;> omega
  refine ⟨_, hch, by dsimp only; omega, hlx, ?_, ?_, ?_⟩
  · split <;> omega
  · intro dg h hlt
    rw [hdg dg h] at hlt ⊢
    rcases hcase with ⟨_, h1, h2⟩ | ⟨h1, _⟩
    · subst h1; subst h2
      rw [hds] at hlen
      refine ⟨by simpa using hlen, ?_⟩
      dsimp only
      rw [Int.mul_comm]; exact hval
    · exact absurd hlt (Int.not_lt.mpr h1)
  · intro dg h hlt
    rw [hdg dg h] at hlt ⊢
    rcases hcase with ⟨h1, _, _⟩ | ⟨_, h2, h3, h4⟩
    · exact absurd h1 hlt
    · obtain ⟨f', rfl, g1, g2, g3, g4, g5, g6, g7, g8⟩ := dec_next htv h2 h3 hnf hval hN hr hw1 hn1
      refine ⟨f', (n - tval j P.bias).fdiv (36 - tval j P.bias), ⟨⟨pre' ++ [up d], ?_, ?_⟩, ?_, g1, g2, g3, g4, g5, g6, g7, ?_, ?_⟩, ?_⟩
      · dsimp only; rw [← h4, hx', hds]; simp
      · simp; omega
      · dsimp only; rw [← h4, ← hlen, hds]; simp; omega
      · dsimp only; omega
      · dsimp only; omega
      · dsimp only; omega
structure DecX (P : DecP) (x tl : List UInt8) : Prop where
  is : P.x = x ++ tl
  cut : tl ≠ [] → tl.length = 1 ∧ P.x.length = P.pre.length + (encD P.bias 8 0 P.N).length
  small : x.length < 900
/-- a turn of the reading; the last octet may be left out -/
structure DecU (P : DecP) (x tl : List UInt8) (c : DecS) (ch : Int) : Prop where
  is : (((x.getD c.e.toNat 0).toNat : Nat) : Int) = ch
  e0 : 0 ≤ c.e
  kind : (65 ≤ ch ∧ ch ≤ 90) ∨ (48 ≤ ch ∧ ch ≤ 57)
  last : ∀ dg, (65 ≤ ch ∧ dg = ch - 65) ∨ (ch ≤ 57 ∧ dg = ch - 22) → dg < tval c.j P.bias → tl = [] ∧ c.e + 1 = P.pre.length + (encD P.bias 8 0 P.N).length ∧ c.r + dg * c.w = P.N
  next : ∀ dg, (65 ≤ ch ∧ dg = ch - 65) ∨ (ch ≤ 57 ∧ dg = ch - 22) → ¬ dg < tval c.j P.bias → ∃ f' n', DecI P ⟨f', c.e + 1, c.r + dg * c.w, c.w * (36 - tval c.j P.bias), c.j + 1, n'⟩ ∧ n'.toNat < c.n.toNat
theorem dec_turnX {P : DecP} {x tl : List UInt8} {c : DecS} (hN : P.N < 2000) (X : DecX P x tl) (I : DecI P c) (h : c.e < x.length) : ∃ ch, DecU P x tl c ch := by
  obtain ⟨ch, hch, he0, he1, hkind, last, next⟩ := dec_turn hN I
  refine ⟨ch, ?_, he0, hkind, fun dg hd hl => ?_, next⟩
  · rw [← hch, X.is]
    simp only [List.getD_eq_getElem?_getD]
    rw [List.getElem?_append_left (by omega)]
  · have h1 := last dg hd hl
    refine ⟨?_, h1⟩
    by_cases e : tl = []
    · exact e
    · have h2 := X.cut e
      rw [X.is, List.length_append] at h2
      omega
theorem dec_end {P : DecP} {x tl : List UInt8} {c : DecS} (hN : P.N < 2000) (X : DecX P x tl) (I : DecI P c) (h : ¬ c.e < x.length) : tl ≠ [] ∧ c.e = x.length := by
  obtain ⟨ch, _, he0, he1, _⟩ := dec_turn hN I
  rw [X.is, List.length_append] at he1
  by_cases e : tl = []
  · rw [e] at he1; simp only [List.length_nil] at he1; omega
  · have := X.cut e; exact ⟨e, by omega⟩
theorem decode_all (w : World) (mean : ExcName → Option Value) (mg mb : Str → Option Value) (P : DecP) (x tl : List UInt8) (err : Str) (e₀ : Int) (tx tp tb te : Tok)
    (hN : P.N < 2000) (hb : 0 ≤ P.bias ∧ P.bias < 1000) (hX : DecX P x tl) (I₀ : DecI P ⟨7, e₀, 0, 1, 0, P.N⟩) :
    ∀ (dp un : Nat) (gd : Option (List Code)) (outer : List Env) (base : Heap) (s : Shared) (Q E : Value → Shared → Prop),
      Below (Ar dp un gd outer) base outer s.heap → (hd.heap_39 w.params).In base → TopF mean mg mb base → Room dp un 2 →
      (tl = [] → ∀ a h' tk' t1 t2, s.heap.StaysIn h' → s.heap.get? a = none → h'.get? a = some (tupObj [.int (P.pre.length + (encD P.bias 8 0 P.N).length) t1, .int P.N t2]) → Q (.ref a) { s with heap := h', toks := tk' }) →
      (tl ≠ [] → err ≠ "strict" → ∀ a g' h' tk' t1, KtsTurn (frs outer) s.heap g' → g'.StaysIn h' → g'.get? a = none → h'.get? a = some (tupObj [.int (x.length + 1) t1, .none]) → Q (.ref a) { s with heap := h', toks := tk' }) →
      (tl ≠ [] → err = "strict" → ∀ e h' tk', RaisedSN base s.heap outer e (.type "UnicodeDecodeError") [] h' → s.heap.UpToSlots h' → E (.ref e) { s with heap := h', toks := tk' }) →
      wpAny (model PySem.Challenge.rw_nb0162_01.row.prog w) (Ar dp un gd outer) (call (.ref 49) [.bytes x.toArray tx, .int e₀ tp, .int P.bias tb, .str err te]) Q E s := by
  k_fill
  intro dp un gd outer base s Q E B XB TB hroom hdone hret hraise
  have hN := Hide.mk hN
  have X := XB.keeps B.stays
  have T := TB.keeps B.stays
  refine enterX [("extended", .bytes x.toArray tx), ("extpos", .int e₀ tp), ("bias", .int P.bias tb), ("errors", .str err te)] (by assumption) (XB.keeps B.stays) (TB.keeps B.stays) (Room.here (by assumption)) (by k_is) (by k_is) (by exact rfl) (by exact rfl) (by exact rfl) ?_ (by decide) (by exact rfl) (by exact rfl) (by exact rfl)
  intro L h₁ tk u E' PO PA LV F N
  k_fold
  k_extra "go"
  refine' while_ruleW (σ := DecS) (DecI P) (fun _ => [])
    (fun c => [("extended", .y x.toArray), ("extpos", .i c.e), ("bias", .i P.bias), ("errors", .s err), ("result", .i c.r), ("w", .i c.w), ("j", .i c.j)]) (fun c => c.n.toNat) ⟨7, e₀, 0, 1, 0, P.N⟩ F' N' (by k_extra "has") (fun p hp => nomatch hp) I₀ ?_ (by passes_own)
  intro c u TT h tk W WR WN hI F NN
  have hj : 0 ≤ c.j ∧ c.j < 100 := ⟨hI.j0, by have := hI.jf; omega⟩
  have hw := hI.w1
  have htv := (tval_bounds c.j P.bias).2
  have hw2 := hI.w2
  have hsm := hX.small
  dsimp only [vals, Dv.v] at F
  clear F' N' I₀
  by_cases hlt : c.e < x.length
  · obtain ⟨ch, hch, he0, hkind, last, next⟩ := dec_turnX hN.out hX hI hlt
    clear hI
    k_extra "go"
    · have hl := last (ch - 65) (.inl ⟨by assumption, rfl⟩) (by assumption)
      rename Fr _ _ _ _ => F9
      rename News _ _ _ _ => N9
      refine WR _ _ ?_
      show Q (Value.ref _) _
      have hg := N9.get (.head _)
      rw [hl.2.1, hl.2.2] at hg
      exact hdone hl.1 _ _ _ _ _ F9.keep (N9.fresh (.head _)) hg
    · obtain ⟨f', n', g, gm⟩ := next (ch - 65) (.inl ⟨by assumption, rfl⟩) (by assumption)
      exact WN _ _ _ _ _ F' N' (fun p hp => nomatch hp) (by k_extra "has") g gm
    · obtain ⟨f', n', g, gm⟩ := next (ch - 22) (.inr ⟨by omega, rfl⟩) (by omega)
      exact WN _ _ _ _ _ F' N' (fun p hp => nomatch hp) (by k_extra "has") g gm
  · obtain ⟨htl, he⟩ := dec_end hN.out hX hI hlt
    clear hI WN hj hw htv hw2
    k_extra "go"
    refine bytes_out (by omega) (by omega) rfl (fun h' tk' e hx => ?_) (by with_unfolding_all rfl) (by intro _; with_unfolding_all rfl)
    refine caught_hereX (A₀ := Ar dp un gd outer) B F NN hx XB TB (by k_is) PyProof.Rows.Boot.«IndexError» (by decide +kernel) PySem.F.isExc_IndexError PySem.F.notTuple_IndexError (by rw [isSubtype_type]; kernel_rfl) ?_ rfl rfl (by decide) (PA _)
    intro h6 g6 T6 F6 N6 K6 hc
    clear F NN
    have X6 := XB.keeps K6.stays
    have TT6 := TB.keeps K6.stays
    dsimp only
    k_extra "go"
    · refine raise_ude (c := e) rfl (name_B F6 X6 (topRead_of TT6) (by k_is) (by kernel_rfl) (by decide +kernel) ⟨rfl, ?_⟩ rfl rfl (by decide)) rfl rfl
      k_extra "go"
      refine ⟨⟨_, _, _, _, _, _, _, _, _, _, rfl, by omega, by omega⟩, hc, fun h7 e7 k7 n7 t7 => LV _ _ ?_⟩
      refine leave_newX (A := Ar dp un gd outer) K6 F6 k7 n7 t7 (fun h8 r8 u8 => ?_) rfl
      exact hraise htl (beq_iff_eq.mp (by assumption)) e7 h8 _ (raised_turn T6 r8) (slots_turn T6 u8)
    · rename Fr _ _ _ _ => F9
      rename News _ _ _ _ => N9
      refine WR _ _ ?_
      show Q (Value.ref _) _
      exact hret htl (beq_eq_false_iff_ne.mp (by assumption)) _ g6 _ _ _ T6 F9.keep (N9.fresh (.head _)) (by rw [← he]; exact N9.get (.head _))

section
variable {prog : Program} {w : World} {A : Around} {E : Value → Shared → Prop} {s : Shared} {value slice : Expr} {l l' : List Nat} {t u : Tok} {h₀ : Heap} {L : Addr} {m : Str → Option Value} {news : List (Addr × Obj)} {Q : Value → Shared → Prop}
theorem strOf_length (l : List Nat) : (strOf l).length = l.length := by simp [strOf, Str.length]
theorem size_small {n : Nat} (h : n < 100000) : n ≤ sizeLine := by rw [sizeLine_eq]; omega
theorem len_strOf (hl : l.length < 100000) (h : Q (.int l.length (s.toks + 1)) { s with toks := s.toks + 1 + 1 }) : wpAny (model prog w) A (call (.builtin "len") [.str (strOf l) t]) Q E s :=
  PyProof.Rows.len_str (by rw [strOf_length]; omega) (by rw [strOf_length]; exact h)
theorem strOf_append (a b : List Nat) : strOf a ++ strOf b = strOf (a ++ b) := by
  show Str.append _ _ = _
  simp [strOf, Str.append]
theorem add_strOf (h1 : l.length + l'.length < 100000) (h : ∀ t' tk, Q (.str (strOf (l ++ l')) t') { s with toks := tk }) : wpAny (model prog w) A (binaryOp .Add (.str (strOf l) t) (.str (strOf l') u)) Q E s :=
  PyProof.Rows.add_str (fun t' tk => by rw [strOf_append]; exact h t' tk) (by rw [strOf_length, strOf_length]; exact size_small h1)
theorem slice_to_eq {j : Int} (h0 : 0 ≤ j) (h1 : j ≤ l.length) : Txt.slice (strOf l) none (some j) = strOf (l.take j.toNat) := by
  have := slice_closes_to (x := strOf l) (j := j) (by simp [strOf]; omega)
  rw [beq_iff_eq.mp this]; simp [strOf]
theorem slice_from_eq' {i : Int} (h0 : 0 ≤ i) (h1 : i ≤ l.length) : Txt.slice (strOf l) (some i) none = strOf (l.drop i.toNat) := by
  rw [slice_from_eq (b := l.length) h0 (by rw [strOf_length]; exact h1) (by rw [strOf_length])]
  have : (l.length : Int) - i = ((l.drop i.toNat).length : Int) := by simp; omega
  rw [this]
  simp only [strOf, Int.toNat_natCast]
  congr 2
  exact List.take_of_length_le (Nat.le_refl _)
theorem slice_to_strOf {j : Int} {uj : Tok} (hF : Fr h₀ L s.heap m) (hN : News h₀ L s.heap news) (h0 : 0 ≤ j) (h1 : j ≤ l.length) (hl : l.length < 100000)
    (h : ∀ h' t' k, Fr h₀ L h' m → News h₀ L h' news → Q (.str (strOf (l.take j.toNat)) t') { s with heap := h', toks := k })
    (hs : subscripted slice false (.str (strOf l) t) (.ref s.heap.objs.size) = operate [.ref s.heap.objs.size, .str (strOf l) t] (getItem (.str (strOf l) t) (.ref s.heap.objs.size)) := by with_unfolding_all rfl)
    (ht : ∀ r, letTemporaryGo value (.str (strOf l) t) r = pure () := by intro _; with_unfolding_all rfl) :
    wpAny (model prog w) A (subscriptTail value slice (.str (strOf l) t) (.ref s.heap.objs.size)) Q E { s with heap := s.heap.push { cls := .type "slice", data := .fields #[.none, .int j uj, .none] } } :=
  slice_strN_ns hF hN (fun h' t' k a b => by rw [slice_to_eq h0 h1]; exact h h' t' k a b) hs ht (by rw [strOf_length]; exact size_small hl)
theorem slice_from_strOf {i : Int} {ui : Tok} (hF : Fr h₀ L s.heap m) (hN : News h₀ L s.heap news) (h0 : 0 ≤ i) (h1 : i ≤ l.length) (hl : l.length < 100000)
    (h : ∀ h' t' k, Fr h₀ L h' m → News h₀ L h' news → Q (.str (strOf (l.drop i.toNat)) t') { s with heap := h', toks := k })
    (hs : subscripted slice false (.str (strOf l) t) (.ref s.heap.objs.size) = operate [.ref s.heap.objs.size, .str (strOf l) t] (getItem (.str (strOf l) t) (.ref s.heap.objs.size)) := by with_unfolding_all rfl)
    (ht : ∀ r, letTemporaryGo value (.str (strOf l) t) r = pure () := by intro _; with_unfolding_all rfl) :
    wpAny (model prog w) A (subscriptTail value slice (.str (strOf l) t) (.ref s.heap.objs.size)) Q E { s with heap := s.heap.push { cls := .type "slice", data := .fields #[.int i ui, .none, .none] } } :=
  slice_strN_sn hF hN (fun h' t' k a b => by rw [slice_from_eq' h0 h1]; exact h h' t' k a b) hs ht (by rw [strOf_length]; exact size_small hl)
theorem chr_strOf {i : Int} (h0 : 0 ≤ i) (h1 : i ≤ 1114111) (h : Q (.str (strOf [i.toNat]) s.toks) { s with toks := s.toks + 1 }) : wpAny (model prog w) A (call (.builtin "chr") [.int i t]) Q E s :=
  chr_of_range h0 h1 h
theorem append_L {D : Addr} {vs : List Value} {n : Nat} {x : Value} {news' : List (Addr × Obj)} (F : Fr h₀ L s.heap m) (N : News h₀ L s.heap news) (U : Upd D (listOf vs.toArray n) (listOf (vs ++ [x]).toArray (n + 1)) news news')
    (hsz : vs.length < 100000) (h : ∀ h', Fr h₀ L h' m → News h₀ L h' news' → Q .none { s with heap := h' }) : wpAny (model prog w) A (call (.builtin "list.append") [.ref D, x]) Q E s :=
  append_K F N (by rw [List.push_toArray]; exact U) h (by rw [List.size_toArray]; exact size_small hsz)
end

section
variable {prog : Program} {w : World} {A : Around} {E : Value → Shared → Prop} {Q : Flow → Shared → Prop} {s : Shared} {env : Env} {h₀ : Heap} {x : Str} {body : List Stmt}

def FPost {σ : Type} (h₀ : Heap) (L : Addr) (s : Shared) (I : Nat → σ → Prop) (led : σ → List (Addr × Obj)) (loc : σ → List (Str × Dv)) (Q : Flow → Shared → Prop) (i : Nat) (own : List (Addr × Obj)) (f : Flow) (s₃ : Shared) : Prop :=
  match f with
  | .ret v => Q (.ret v) s₃
  | .brk => Q .next s₃
  | _ => ∃ (c' : σ) (h' : Heap) (tk : Nat) (m' : Str → Option Value) (news' : List (Addr × Obj)), s₃ = { s with heap := h', toks := tk } ∧ Fr h₀ L h' m' ∧ News h₀ L h' news' ∧ (∀ p ∈ led c', p ∈ news') ∧ (∀ p ∈ own, p ∈ news') ∧ HasD m' (loc c') ∧ I (i + 1) c'
theorem fpost {σ : Type} {h₀ : Heap} {L : Addr} {s : Shared} {I : Nat → σ → Prop} {led : σ → List (Addr × Obj)} {loc : σ → List (Str × Dv)} {Q : Flow → Shared → Prop} {i : Nat} {own : List (Addr × Obj)} {h' : Heap} {tk : Nat} {m' : Str → Option Value} {news' : List (Addr × Obj)}
    (c' : σ) (F : Fr h₀ L h' m') (N : News h₀ L h' news') (hn : ∀ p ∈ led c', p ∈ news') (ho : ∀ p ∈ own, p ∈ news') (hm : HasD m' (loc c')) (hI : I (i + 1) c') : FPost h₀ L s I led loc Q i own .next { s with heap := h', toks := tk } :=
  ⟨c', h', tk, m', news', rfl, F, N, hn, ho, hm, hI⟩

theorem sub1 {α : Type} {x : α} {r : List α} : ∀ p ∈ [x], p ∈ x :: r := fun p hp => List.mem_singleton.mp hp ▸ List.Mem.head _
theorem subT {α : Type} {x : α} {r : List α} : ∀ p ∈ r, p ∈ x :: r := fun p hp => List.Mem.tail _ hp
theorem loop_walks {σ : Type} {I : Addr} {fp wr : List Addr} {n : Nat} {P : Nat → Value → Prop} {St : Nat → Heap → Prop} {m₀ : Str → Option Value} {news : List (Addr × Obj)} (W : Walks prog w A I fp wr n P St)
    (hLf : env.locals ∉ fp) (hwr : ∀ b ∈ wr, h₀.get? b = none) (hst : St 0 s.heap) (F : Fr h₀ env.locals s.heap m₀) (N : News h₀ env.locals s.heap news)
    (Inv : Nat → σ → Prop) (led : σ → List (Addr × Obj)) (loc : σ → List (Str × Dv)) (adr : List Addr) (hadr : ∀ c, (led c).map (·.1) = adr) (c₀ : σ)
    (hm : HasD m₀ (loc c₀)) (hn : ∀ p ∈ led c₀, p ∈ news) (hI : Inv 0 c₀) (hoff : ∀ a ∈ adr, a ∉ wr)
    (turn : ∀ (i : Nat) (v : Value) (c : σ) (u : Str → Option Value) (T : Nat → Tok) (h : Heap) (tk : Nat) (own : List (Addr × Obj)), P i v → i < n → Inv i c → (∀ p ∈ own, p.1 ∈ fp) →
      Fr h₀ env.locals h (ov ((x, v) :: vals (loc c) T) u) → News h₀ env.locals h (led c ++ own) →
      wpAny (model prog w) A (execs body env) (FPost h₀ env.locals s Inv led loc Q i own) E { s with heap := h, toks := tk })
    (done : ∀ (c : σ) (u : Str → Option Value) (T : Nat → Tok) (h : Heap) (tk : Nat), Inv n c → Fr h₀ env.locals h (ov (vals (loc c) T) u) → News h₀ env.locals h (led c) → Q .next { s with heap := h, toks := tk }) :
    LoopAtV prog w A h₀ env x body Q E (.ref I) s := by
  refine ⟨I, fp, wr, n, P, St, m₀, led c₀, fun i m nx => ∃ c, nx = led c ∧ HasD m (loc c) ∧ Inv i c, rfl, W, hLf, hwr, ?_, hst, F, fun p hp => N p (hn p hp), ⟨c₀, rfl, hm, hI⟩, ?_, ?_⟩
  · intro p hp
    refine hoff _ ?_
    rw [← hadr c₀]; exact List.mem_map_of_mem hp
  · rintro i v m₁ news₁ s₁ own ⟨h, tk, rfl⟩ hi hP ⟨c, rfl, hm', hI'⟩ _ hown _ _ _ F₁ N₁
    obtain ⟨T, hT⟩ := hm'.vals
    have e : ∀ y, (if y = x then some v else m₁ y) = if y = x then some v else ov (vals (loc c) T) m₁ y := fun y => by rw [← ov_has hT y]
    refine wpAny_mono (turn i v c m₁ T h tk own hP hi hI' hown (Fr.eqv F₁ e) fun p hp => N₁ p ((List.mem_append.mp hp).elim (fun a => List.mem_append_right _ a) fun a => List.mem_append_left _ a)) (fun f s₂ q => ?_) fun _ _ y => y
    have fin : (∃ (c' : σ) (h' : Heap) (tk' : Nat) (m' : Str → Option Value) (news' : List (Addr × Obj)), s₂ = { s with heap := h', toks := tk' } ∧ Fr h₀ env.locals h' m' ∧ News h₀ env.locals h' news' ∧ (∀ p ∈ led c', p ∈ news') ∧ (∀ p ∈ own, p ∈ news') ∧ HasD m' (loc c') ∧ Inv (i + 1) c') →
        LoopStepU h₀ env.locals wr own (fun m nx => ∃ c, nx = led c ∧ HasD m (loc c) ∧ Inv (i + 1) c) { s with heap := h, toks := tk } .next s₂ := by
      rintro ⟨c', h', tk', m', news', rfl, F', N', hn', ho', hm9, hI9⟩
      refine ⟨rfl, h', tk', m', led c', rfl, F', fun p hp => N' p ((List.mem_append.mp hp).elim (ho' p) (hn' p)), fun p hp => hoff _ ?_, c', rfl, hm9, hI9⟩
      rw [← hadr c']; exact List.mem_map_of_mem hp
    cases f with
    | ret v => exact .ret q
    | brk => exact .brk q
    | next => exact .next (fin q)
    | cont => exact .cont (fin q)
  · rintro h' tk m' news' F' N' _ ⟨c, rfl, hm', hI'⟩
    obtain ⟨T, hT⟩ := hm'.vals
    exact done c m' T h' tk hI' (Fr.ov F' hT) N'

theorem loc_ne_size {L : Addr} {m : Str → Option Value} (F : Fr h₀ L s.heap m) : L ≠ s.heap.objs.size := Nat.ne_of_lt F.ns.lt

/-- for x in l: a list that stands (in the base or in the ledger) -/
theorem for_list {σ : Type} {l : Addr} {vs : List Value} {m₀ : Str → Option Value} {news : List (Addr × Obj)} (hh : A.handled = none)
    (hl : s.heap.IsList l vs.toArray) (hlL : l ≠ env.locals) (F : Fr h₀ env.locals s.heap m₀) (N : News h₀ env.locals s.heap news)
    (Inv : Nat → σ → Prop) (led : σ → List (Addr × Obj)) (loc : σ → List (Str × Dv)) (adr : List Addr) (hadr : ∀ c, (led c).map (·.1) = adr) (c₀ : σ)
    (hm : HasD m₀ (loc c₀)) (hn : ∀ p ∈ led c₀, p ∈ news) (hI : Inv 0 c₀)
    (turn : ∀ (i : Nat) (v : Value) (c : σ) (u : Str → Option Value) (T : Nat → Tok) (h : Heap) (tk : Nat) (own : List (Addr × Obj)), vs[i]? = some v → Inv i c → (∀ p ∈ own, ∀ a ∈ adr, a ≠ l → p.1 ≠ a) →
      Fr h₀ env.locals h (ov ((x, v) :: vals (loc c) T) u) → News h₀ env.locals h (led c ++ own) →
      wpAny (model prog w) A (execs body env) (FPost h₀ env.locals { s with heap := s.heap.push { cls := .type "list_iterator", data := .fields #[.ref l, .int 0 0] } } Inv led loc Q i own) E { s with heap := h, toks := tk })
    (done : ∀ (c : σ) (u : Str → Option Value) (T : Nat → Tok) (h : Heap) (tk : Nat), Inv vs.length c → Fr h₀ env.locals h (ov (vals (loc c) T) u) → News h₀ env.locals h (led c) → Q .next { s with heap := h, toks := tk }) :
    wpAny (model prog w) A (pyIter (.ref l)) (fun it s₂ => LoopAtV prog w A h₀ env x body Q E it s₂) E s := by
  obtain ⟨ol, hol, _⟩ := id hl
  have hlt : l < s.heap.objs.size := Heap.lt_size hol
  refine wpAny_pyIter_list hl ?_
  have W := Walks.list (prog := prog) (w := w) hh s.heap.objs.size l (Nat.ne_of_lt hlt) vs.toArray
  have hadr0 : ∀ a ∈ adr, a < s.heap.objs.size := by
    intro a ha
    rw [← hadr c₀] at ha
    obtain ⟨p, hp, rfl⟩ := List.mem_map.mp ha
    exact Heap.lt_size (N p (hn p hp)).1
  refine loop_walks W ?_ ?_ ⟨⟨_, Heap.get?_push_size _ rfl, rfl, rfl⟩, hl.at fun o e => Heap.get?_push_of_some _ e⟩ (F.push _) (N.pushKeep _) Inv led loc adr hadr c₀ hm hn hI ?_ ?_ ?_
  · intro hmm
    rcases List.mem_cons.mp hmm with e | hmm
    · exact loc_ne_size F e
    · exact hlL (List.mem_singleton.mp hmm).symm
  · intro b hb
    rw [List.mem_singleton.mp hb]
    exact next_is_new F
  · intro a ha hb
    exact absurd (hadr0 a ha) (by rw [List.mem_singleton.mp hb]; exact Nat.lt_irrefl _)
  · intro i v c u T h tk own hP hi hI' hown F' N'
    refine turn i v c u T h tk own (by simpa using hP) hI' (fun p hp a ha hal e => ?_) F' N'
    rcases List.mem_cons.mp (hown p hp) with q | q
    · rw [← e, q] at ha; exact absurd (hadr0 _ ha) (Nat.lt_irrefl _)
    · rw [List.mem_singleton.mp q] at e; exact hal e.symm
  · intro c u T h tk hI' F' N'
    exact done c u T h tk (by simpa using hI') F' N'
end

theorem setup_F2 : True := by
  k_with "call ref" => (k_here; (with_reducible show wpAny _ _ (call (Value.ref 35) _) _ _ _); k_dflt (refine' Tells.useI ?z1 ?z2 ?z3 ?z4 ?z5 ?z6 ?z7 ?z8 ?z9 ?_; (case z2 => assumption); (case z3 => k_asm); (case z4 => assumption); (case z5 => k_asm); (case z6 => assumption); (case z7 => exact rfl); (case z1 => exact (adapt_tells _ _ _ _ _ _ _ _ _ (by first | assumption | omega) (by first | assumption | omega))); (case z8 => exact trivial); (case z9 => exact (Room.down (by assumption) rfl))); intro t' h' tk' F' N'; (try dsimp only); (try k_sweep))
  trivial
theorem setup_rules : True := by
  k_with "call builtin:list.append" => (k_here; (with_reducible show wpAny _ _ (call (Value.builtin _) [Value.ref _, _]) _ _ _); k_dflt (refine' append_L ?z1 ?z2 ?z3 ?z4 ?_; (case z1 => k_asm); (case z2 => k_asm); (case z3 => k_upd); (case z4 => first | assumption | omega | (simp only [List.length_append, List.length_cons, List.length_nil]; omega)); k_whole); intro h' F' N'; (try k_sweep))
  k_with "call builtin:len" => (k_here; (with_reducible show wpAny _ _ (call (Value.builtin "len") [Value.str (Mine.strOf _) _]) _ _ _); (refine' len_strOf ?z5 ?_; (case z5 => first | assumption | omega | (simp only [List.length_append, List.length_cons, List.length_nil, List.length_take, List.length_drop]; omega))); (try simp only [List.length_append, List.length_cons, List.length_nil, List.length_take, List.length_drop]))
  k_with "call builtin:chr" => (k_here; (refine' chr_strOf ?z6 ?z7 ?_; (case z6 => first | assumption | omega); (case z7 => first | assumption | omega)))
  k_with "binaryOp Add str str" => (k_here; (with_reducible show wpAny _ _ (binaryOp Operator.Add (Value.str (Mine.strOf _) _) (Value.str (Mine.strOf _) _)) _ _ _); (refine' add_strOf ?z8 ?_; (case z8 => first | assumption | omega | (simp only [List.length_append, List.length_cons, List.length_nil, List.length_take, List.length_drop]; omega))); intro t' tk')
  k_with "subscriptTail Name Slice str ref" => (k_here; (with_reducible show wpAny _ _ (subscriptTail _ (Expr.Slice none (some _) none _) (Value.str (Mine.strOf _) _) _) _ _ _); (with_reducible rename Fr _ _ _ _ => F'); (with_reducible rename News _ _ _ _ => N'); (refine' slice_to_strOf (s := ⟨_, _, _, _, _⟩) ?z9 ?z10 ?z11 ?z12 ?z13 ?_; (case z9 => exact F'); (case z10 => exact N'); (case z11 => first | assumption | omega); (case z12 => first | assumption | omega); (case z13 => first | assumption | omega)); intro h' t' k' F' N')
  k_with "subscriptTail Name Slice str ref" => (k_here; (with_reducible show wpAny _ _ (subscriptTail _ (Expr.Slice (some _) none none _) (Value.str (Mine.strOf _) _) _) _ _ _); (with_reducible rename Fr _ _ _ _ => F'); (with_reducible rename News _ _ _ _ => N'); (refine' slice_from_strOf (s := ⟨_, _, _, _, _⟩) ?z14 ?z15 ?z16 ?z17 ?z18 ?_; (case z14 => exact F'); (case z15 => exact N'); (case z16 => first | assumption | omega); (case z17 => first | assumption | omega); (case z18 => first | assumption | omega)); intro h' t' k' F' N')
  trivial
structure InsS where
  k : Nat
  st : Lay
  bias : Int
  e : Int
  rest : List Int
structure InsP where
  txt : List Nat
  x : List UInt8
  tl : List UInt8
  ns : List Int
  more : List Int
structure InsX (P : InsP) : Prop where
  is : P.x ++ P.tl = encAll up P.txt.length 0 72 (P.ns ++ P.more)
  fin : (P.more = [] ∧ P.tl = []) ∨ (∃ N, P.more = [N] ∧ 26 ≤ N ∧ N < 2000 ∧ P.tl.length = 1)
  nums : ∀ n ∈ P.ns, 0 ≤ n ∧ n < 2000
  few : P.ns.length ≤ 8
  short : P.txt.length ≤ 8
structure InsI (P : InsP) (c : InsS) : Prop where
  at_ : ∃ pre', P.x ++ P.tl = pre' ++ encAll up P.txt.length c.k c.bias (c.rest ++ P.more) ∧ (pre'.length : Int) = c.e
  zero : c.e = 0 ↔ c.k = 0
  fold : c.rest.foldl lstep c.st = P.ns.foldl lstep ⟨P.txt, 128, -1⟩
  cnt : c.k + c.rest.length = P.ns.length
  len : c.st.txt.length = P.txt.length + c.k
  rest : ∀ n ∈ c.rest, 0 ≤ n ∧ n < 2000
  b0 : 0 ≤ c.bias
  b1 : c.bias ≤ 72
  p0 : -1 ≤ c.st.pos
  p1 : c.st.pos ≤ 20
  c0 : 0 ≤ c.st.code
  c1 : c.st.code ≤ 200 + 2100 * c.k
theorem enc_pos (bias N : Int) : 1 ≤ (encD bias 8 0 N).length := List.length_pos_iff.mpr (encD_ne bias 7 0 N)
theorem enc_two {bias N : Int} (h : 26 ≤ N) : 2 ≤ (encD bias 8 0 N).length := by
  have ht := tval_bounds 0 bias
  rw [encD, if_neg (by omega), List.length_cons]
  have : 0 < (encD bias 7 (0 + 1) ((N - tval 0 bias).fdiv (36 - tval 0 bias))).length := List.length_pos_iff.mpr (encD_ne bias 6 _ _)
  omega
theorem cut_tail {α : Type} {x tl a b : List α} (h : x ++ tl = a ++ b) (hl : tl.length ≤ b.length) : ∃ p, x = a ++ p ∧ p ++ tl = b := by
  have hlen := congrArg List.length h
  simp only [List.length_append] at hlen
  refine ⟨b.take (b.length - tl.length), ?_, ?_⟩
  · have := congrArg (List.take x.length) h
    rw [List.take_left, List.take_append, List.take_of_length_le (by omega)] at this
    rw [this]; congr 2; omega
  · have := congrArg (List.drop x.length) h
    rw [List.drop_left, List.drop_append, List.drop_of_length_le (by omega), List.nil_append] at this
    rw [show x.length - a.length = b.length - tl.length by omega] at this
    generalize b.length - tl.length = k at this
    rw [this, List.take_append_drop]
theorem tl_le {P : InsP} (X : InsX P) (r : List Int) (k : Nat) (bias : Int) : P.tl.length ≤ (encAll up P.txt.length k bias (r ++ P.more)).length := by
  rcases X.fin with ⟨_, h⟩ | ⟨N, h, _, _, hl⟩
  · rw [h]; exact Nat.zero_le _
  · rw [hl]
    have : ∀ (l : List Int) (k : Nat) (bias : Int), l ≠ [] → 1 ≤ (encAll up P.txt.length k bias l).length := by
      intro l k bias hl
      cases l with
      | nil => exact absurd rfl hl
      | cons M l =>
        rw [encAll, List.length_append, List.length_map]
        have := enc_pos bias M; omega
    exact this _ _ _ (by rw [h]; simp)
theorem ins_xlen {P : InsP} (X : InsX P) : P.x.length < 900 := by
  have h1 := encAll_len up P.txt.length (P.ns ++ P.more) 0 72
  rw [← X.is, List.length_append, List.length_append] at h1
  have := X.few
  rcases X.fin with ⟨h, _⟩ | ⟨N, h, _⟩ <;> rw [h] at h1 <;> simp only [List.length_cons, List.length_nil] at h1 <;> omega
theorem ins_turn {P : InsP} {c : InsS} {N : Int} {r : List Int} (X : InsX P) (I : InsI P c) (h : c.rest = N :: r) :
    ∃ pre' post, P.x = pre' ++ ((encD c.bias 8 0 N).map up ++ post) ∧ (pre'.length : Int) = c.e ∧ post ++ P.tl = encAll up P.txt.length (c.k + 1) (adaptv N (c.k == 0) (P.txt.length + c.k + 1)) (r ++ P.more) ∧ c.e < P.x.length := by
  obtain ⟨pre', hx, he⟩ := I.at_
  rw [h, List.cons_append, encAll, ← List.append_assoc] at hx
  obtain ⟨p, h1, h2⟩ := cut_tail hx (tl_le X _ _ _)
  refine ⟨pre', p, by rw [h1, List.append_assoc], he, h2, ?_⟩
  have := enc_pos c.bias N
  rw [h1, List.length_append, List.length_append, List.length_map]; omega
/-- the numbers of a turn -/
structure InsN (c : InsS) (N : Int) : Prop where
  N0 : 0 ≤ N
  N1 : N < 2000
  m0 : 0 ≤ (c.st.pos + (N + 1)).fmod ((c.st.txt.length : Int) + 1)
  m1 : (c.st.pos + (N + 1)).fmod ((c.st.txt.length : Int) + 1) ≤ c.st.txt.length
  d0 : 0 ≤ c.st.code + (c.st.pos + (N + 1)).fdiv ((c.st.txt.length : Int) + 1)
  d1 : c.st.code + (c.st.pos + (N + 1)).fdiv ((c.st.txt.length : Int) + 1) ≤ 200 + 2100 * (c.k + 1)
  k1 : c.k < 8
theorem ins_num {P : InsP} {c : InsS} {N : Int} {r : List Int} (X : InsX P) (I : InsI P c) (h : c.rest = N :: r) : InsN c N := by
  have hN := I.rest N (by rw [h]; exact .head _)
  have hp := I.p0
  have hp1 := I.p1
  have hc := I.cnt
  have hf := X.few
  rw [h, List.length_cons] at hc
  have hq := fdiv_bounds (a := c.st.pos + (N + 1)) (b := (c.st.txt.length : Int) + 1) (by omega) (by omega)
  have hm0 := Int.fmod_nonneg_of_pos (c.st.pos + (N + 1)) (b := (c.st.txt.length : Int) + 1) (by omega)
  have hm1 := Int.fmod_lt_of_pos (c.st.pos + (N + 1)) (b := (c.st.txt.length : Int) + 1) (by omega)
  have c0 := I.c0
  have c1 := I.c1
  exact ⟨hN.1, hN.2, hm0, by omega, by omega, by omega, by omega⟩
theorem ins_next {P : InsP} {c : InsS} {N : Int} {r : List Int} (X : InsX P) (I : InsI P c) (h : c.rest = N :: r) :
    InsI P ⟨c.k + 1, lstep c.st N, adaptv N (c.k == 0) (P.txt.length + c.k + 1), c.e + (encD c.bias 8 0 N).length, r⟩ := by
  obtain ⟨pre', post, h1, h2, h3, h4⟩ := ins_turn X I h
  have hn := ins_num X I h
  have hab := adaptv_bounds (first := c.k == 0) (nc := (P.txt.length : Int) + c.k + 1) ⟨hn.N0, hn.N1⟩ (by omega)
  have hl := enc_pos c.bias N
  have hll := lstep_len c.st N
  have hI := I.len
  have hs := X.short
  have hc := I.cnt
  have hk := hn.k1
  rw [h, List.length_cons] at hc
  refine ⟨⟨pre' ++ (encD c.bias 8 0 N).map up, ?_, ?_⟩, ?_, ?_, ?_, ?_, fun n hn => I.rest n (by rw [h]; exact .tail _ hn), hab.1, hab.2, ?_, ?_, hn.d0, ?_⟩
  · rw [h1, ← h3]; simp only [List.append_assoc]
  · dsimp only; rw [List.length_append, List.length_map]; omega
  · dsimp only; omega
  · rw [← I.fold, h]; rfl
  · dsimp only; omega
  · dsimp only; omega
  · exact Int.le_trans (by decide) hn.m0
  · have := hn.m1; show (c.st.pos + (N + 1)).fmod _ ≤ 20; omega
  · have := hn.d1; show c.st.code + _ ≤ 200 + 2100 * ((c.k + 1 : Nat) : Int); omega
theorem ins_dec {P : InsP} {c : InsS} {N : Int} {r : List Int} (X : InsX P) (I : InsI P c) (h : c.rest = N :: r) :
    ∃ pre' post, DecX ⟨P.x, pre', post, N, c.bias⟩ P.x [] ∧ DecI ⟨P.x, pre', post, N, c.bias⟩ ⟨7, c.e, 0, 1, 0, N⟩ ∧ (pre'.length : Int) = c.e := by
  obtain ⟨pre', post, h1, h2, h3, h4⟩ := ins_turn X I h
  have hn := ins_num X I h
  have n0 := hn.N0
  have n1 := hn.N1
  exact ⟨pre', post, ⟨(List.append_nil _).symm, fun q => absurd rfl q, ins_xlen X⟩,
    ⟨⟨pre', h1, h2⟩, by dsimp only; rw [h2], by dsimp only; omega, by dsimp only; decide, by dsimp only; decide, by dsimp only; decide, n0, n1, by dsimp only; omega, by dsimp only; decide, by dsimp only; decide⟩, h2⟩
theorem ins_last {P : InsP} {c : InsS} (X : InsX P) (I : InsI P c) (h : c.rest = []) : (P.more = [] ∧ c.e = P.x.length) ∨ (∃ N pre', P.more ≠ [] ∧ P.tl ≠ [] ∧ N < 2000 ∧ c.e < P.x.length ∧ DecX ⟨P.x ++ P.tl, pre', [], N, c.bias⟩ P.x P.tl ∧ DecI ⟨P.x ++ P.tl, pre', [], N, c.bias⟩ ⟨7, c.e, 0, 1, 0, N⟩) := by
  obtain ⟨pre', hx, he⟩ := I.at_
  rw [h, List.nil_append] at hx
  rcases X.fin with ⟨hm, ht⟩ | ⟨N, hm, n0, n1, ht⟩
  · refine .inl ⟨hm, ?_⟩
    rw [hm, ht, encAll, List.append_nil, List.append_nil] at hx
    rw [hx]; omega
  · rw [hm, encAll, encAll, List.append_nil] at hx
    have h2 := enc_two (bias := c.bias) n0
    have hl := congrArg List.length hx
    rw [List.length_append, List.length_append, List.length_map] at hl
    have hn : P.tl ≠ [] := by intro q; rw [q] at ht; cases ht
    refine .inr ⟨N, pre', by rw [hm]; simp, hn, n1, by omega, ⟨rfl, fun _ => ⟨ht, ?_⟩, ins_xlen X⟩, ⟨⟨pre', by rw [List.append_nil]; exact hx, he⟩, by dsimp only; rw [he], by dsimp only; omega, by dsimp only; decide, by dsimp only; decide, by dsimp only; decide, by dsimp only; omega, n1, by dsimp only; omega, by dsimp only; decide, by dsimp only; decide⟩⟩
    dsimp only; rw [List.length_append, hl]
theorem insort_all (w : World) (mean : ExcName → Option Value) (mg mb : Str → Option Value) (P : InsP) (err : Str) (t1 t2 t3 : Tok) (hX : InsX P) :
    ∀ (dp un : Nat) (gd : Option (List Code)) (outer : List Env) (base : Heap) (s : Shared) (Q E : Value → Shared → Prop),
      Below (Ar dp un gd outer) base outer s.heap → (hd.heap_39 w.params).In base → TopF mean mg mb base → Room dp un 3 →
      (P.more = [] → ∀ t h' tk', s.heap.StaysIn h' → Q (.str (strOf (P.ns.foldl lstep ⟨P.txt, 128, -1⟩).txt) t) { s with heap := h', toks := tk' }) →
      (P.more ≠ [] → err ≠ "strict" → ∀ t g' h' tk', KtsTurn (frs outer) s.heap g' → g'.StaysIn h' → Q (.str (strOf (P.ns.foldl lstep ⟨P.txt, 128, -1⟩).txt) t) { s with heap := h', toks := tk' }) →
      (P.more ≠ [] → err = "strict" → ∀ e h' tk', RaisedSN base s.heap outer e (.type "UnicodeDecodeError") [] h' → s.heap.UpToSlots h' → E (.ref e) { s with heap := h', toks := tk' }) →
      wpAny (model PySem.Challenge.rw_nb0162_01.row.prog w) (Ar dp un gd outer) (call (.ref 56) [.str (strOf P.txt) t1, .bytes P.x.toArray t2, .str err t3]) Q E s := by
  k_fill
  intro dp un gd outer base s Q E B XB TB hroom hdone hret hraise
  have X := XB.keeps B.stays
  have T := TB.keeps B.stays
  have hxl := ins_xlen hX
  refine enterX [("base", .str (strOf P.txt) t1), ("extended", .bytes P.x.toArray t2), ("errors", .str err t3)] (by assumption) (XB.keeps B.stays) (TB.keeps B.stays) (Room.here (by assumption)) (by k_is) (by k_is) (by exact rfl) (by exact rfl) (by exact rfl) ?_ (by decide) (by exact rfl) (by exact rfl) (by exact rfl)
  intro L h₁ tk u E' PO PA LV F N
  k_fold
  k_extra "go"
  refine' while_ruleW (σ := InsS) (InsI P) (fun _ => [])
    (fun c => [("base", .s (strOf c.st.txt)), ("extended", .y P.x.toArray), ("errors", .s err), ("char", .i c.st.code), ("pos", .i c.st.pos), ("bias", .i c.bias), ("extpos", .i c.e)]) (fun c => c.rest.length) ⟨0, ⟨P.txt, 128, -1⟩, 72, 0, P.ns⟩ F' N' (by k_extra "has") (fun p hp => nomatch hp)
    ⟨⟨[], hX.is, rfl⟩, ⟨fun _ => rfl, fun _ => rfl⟩, rfl, Nat.zero_add _, rfl, hX.nums, by dsimp only; decide, by dsimp only; decide, by dsimp only; decide, by dsimp only; decide, by dsimp only; decide, by dsimp only; decide⟩ ?_ (by passes_own)
  intro c u TT h tk W WR WN hI F NN
  clear F' N'
  dsimp only [vals, Dv.v] at F
  cases hr : c.rest with
  | nil =>
    have hf := hI.fold
    rw [hr] at hf
    have hb0 := hI.b0
    have hb1 := hI.b1
    rcases ins_last hX hI hr with ⟨hm, he⟩ | ⟨N, pre', hm, htl, hN, he, dX, dI⟩
    · clear hI WN
      k_extra "go"
      show Q _ _
      rw [← hf] at hdone
      exact hdone hm _ _ _ F.keep
    · clear hI WN
      k_extra "go"
      refine decode_all w mean mg mb ⟨P.x ++ P.tl, pre', [], N, c.bias⟩ P.x P.tl err c.e _ _ _ _ hN ⟨hb0, Int.lt_of_le_of_lt hb1 (by decide)⟩ dX dI (dp + 1) (un + 3) gd _ base _ _ _ (below_here B F rfl) XB TB (Room.down hroom rfl) (fun q => absurd q htl) ?_ ?_
      · intro _ hs a g' h2 tk2 t9 tu st hn ho
        obtain ⟨g, T3, F3, B3⟩ := turn_ground B F tu st
        have N3 := turn_new F F3 tu st T3 (turn_news B NN tu st T3) hn ho (fun _ _ q => nomatch q)
        have X3 := XB.keeps B3.stays
        have TT3 := TB.keeps B3.stays
        clear F NN
        k_extra "go"
        rename Fr _ _ _ _ => F9
        refine WR _ _ ?_
        show Q _ _
        rw [← hf] at hret
        exact hret hm hs _ g _ _ T3 F9.keep
      · intro _ hs e h2 tk2 r u2
        exact LV _ _ (leave_onSN (A := Ar dp un gd outer) B F r u2 fun h3 r3 _ u3 => hraise hm hs e h3 tk2 r3 u3)
  | cons N r =>
    have hn := ins_num hX hI hr
    have hnx := ins_next hX hI hr
    obtain ⟨pre', post, dX, dI, hpe⟩ := ins_dec hX hI hr
    have hlt : c.e < P.x.length := let ⟨_, _, _, _, _, q⟩ := ins_turn hX hI hr; q
    have hb0 := hI.b0
    have hb1 := hI.b1
    have hlen := hI.len
    have hz := hI.zero
    have hn1 := hn.N0
    have hn2 := hn.N1
    have hm0 := hn.m0
    have hm1 := hn.m1
    have hd0 := hn.d0
    have hd1 := hn.d1
    have hk1 := hn.k1
    have hts := hX.short
    clear hI hn
    have dX := Hide.mk dX
    have dI := Hide.mk dI
    k_extra "go"
    refine decode_all w mean mg mb ⟨P.x, pre', post, N, c.bias⟩ P.x [] err c.e _ _ _ _ hn2 ⟨hb0, Int.lt_of_le_of_lt hb1 (by decide)⟩ dX.out dI.out (dp + 1) (un + 3) gd _ base _ _ _ (below_here B F rfl) XB TB (Room.down hroom rfl) ?_ (fun q => absurd rfl q) (fun q => absurd rfl q)
    intro _ a h2 tk2 t8 t9 st ha ho
    have F2 := fr_stays F st
    have N2 := news_new F NN st ho ha
    dsimp only at N2
    rw [hpe] at N2
    clear F NN
    k_extra "go"
    have hnc : (((min ((c.st.pos + (N + 1)).fmod (↑c.st.txt.length + 1)).toNat c.st.txt.length + (0 + 1) + (c.st.txt.length - ((c.st.pos + (N + 1)).fmod (↑c.st.txt.length + 1)).toNat) : Nat)) : Int) = P.txt.length + c.k + 1 := by
      clear hnx hm0 hd0 hd1
      omega
    have he0 : (c.e == 0) = (c.k == 0) := by
      rw [Bool.eq_iff_iff, beq_iff_eq, beq_iff_eq]; exact hz
    rw [hnc, he0] at F'
    exact WN _ _ _ _ _ F' N' (fun p hp => nomatch hp) (by k_extra "has") hnx (by rw [hr]; exact Nat.lt_succ_self _)

def IntList (h : Heap) (l : Addr) (ns : List Int) : Prop := ∃ vs, h.IsList l vs.toArray ∧ IntsAre vs ns
def lays (st : Lay) : List Int → List (List Nat)
  | [] => []
  | N :: r => (lstep st N).txt :: lays (lstep st N) r
theorem lays_append (st : Lay) : ∀ (a b : List Int), lays st (a ++ b) = lays st a ++ lays (a.foldl lstep st) b := by
  intro a
  induction a generalizing st with
  | nil => intro b; rfl
  | cons N r ih => intro b; show _ :: lays _ (r ++ b) = _; rw [ih]; rfl
theorem lays_length (st : Lay) : ∀ a : List Int, (lays st a).length = a.length
  | [] => rfl
  | N :: r => by show (lays (lstep st N) r).length + 1 = _; rw [lays_length]; rfl
theorem StrsAre_snoc {vs : List Value} {ys : List Str} (h : StrsAre vs ys) (y : Str) (t : Tok) : StrsAre (vs ++ [.str y t]) (ys ++ [y]) := by
  induction h with
  | nil => exact .cons y t .nil
  | cons z u _ ih => exact .cons z u ih
theorem ints_at {vs : List Value} {ns : List Int} (hi : IntsAre vs ns) {i : Nat} {v : Value} (h : vs[i]? = some v) : ∃ n t, ns[i]? = some n ∧ v = .int n t := by
  have hlt : i < vs.length := (List.getElem?_eq_some_iff.mp h).1
  have hlt' : i < ns.length := by rw [← hi.length]; exact hlt
  obtain ⟨t, e⟩ := hi.get i ns[i] (by simp [hlt'])
  rw [h] at e
  exact ⟨ns[i], t, by simp [hlt'], Option.some.inj e⟩
theorem divmod_is {q P d l : Int} (hl : 0 ≤ l) (hlP : l < P) (e : d * P + l = q) : q.fmod P = l ∧ q.fdiv P = d := by
  subst e
  rw [Int.fmod_eq_emod_of_nonneg _ (by omega), Int.fdiv_eq_ediv_of_nonneg _ (by omega)]
  constructor
  · rw [Int.add_comm, Int.add_mul_emod_self_right]; exact Int.emod_eq_of_lt hl hlP
  · rw [Int.add_comm, Int.add_mul_ediv_right _ _ (by omega), Int.ediv_eq_zero_of_lt hl hlP]; omega
theorem base_ne {h₀ h : Heap} {L l : Addr} {m : Str → Option Value} {its : Array Value} (F : Fr h₀ L h m) (hl : h₀.IsList l its) : l ≠ L := by
  obtain ⟨o, ho, _⟩ := hl
  exact Nat.ne_of_lt (Nat.lt_of_lt_of_le (Heap.lt_size ho) F.above)
theorem step_mul (a c k P : Int) : (a + k - c) * P = (a - c) * P + k * P := by
  rw [show a + k - c = (a - c) + k by omega, Int.add_mul]
structure LaidS where
  st : Lay
  pl : Int
  vs : List Value
  n : Nat
theorem laid_tells (w : World) (mean : ExcName → Option Value) (mg mb : Str → Option Value) (txt : List Nat) (ns : List Int) (l : Addr) (t1 : Tok)
    (hns : ∀ n ∈ ns, 0 ≤ n ∧ n < 2000) (hl : ns.length ≤ 8) (ht : txt.length ≤ 8) :
    Tells w mean mg mb 1 154 [.str (strOf txt) t1, .ref l] (fun h => IntList h l ns)
      (fun v h h' => ∃ a o, v = .ref a ∧ h.get? a = none ∧ h'.get? a = some o ∧ ∃ vs n, o = listOf vs.toArray n ∧ StrsAre vs ((txt :: lays ⟨txt, 128, -1⟩ ns).map strOf)) := by
  unfold Tells
  k_fill
  intro dp un gd outer base s Q E B X T hpre hroom hret
  obtain ⟨lv, hll, hli⟩ := hpre
  refine enter [("base", .str (strOf txt) t1), ("numbers", .ref l)] (by assumption) (by assumption) (by assumption) (Room.here (by assumption)) (by k_is) (by k_is) (by exact rfl) (by exact rfl) (by exact rfl) ?_ (by decide) (by exact rfl) (by exact rfl) (by exact rfl)
  intro L h₁ tk u F N
  k_fold
  k_extra "go"
  rename News _ _ _ _ => N1
  refine name1 N1 ?_
  intro tl htl
  subst htl
  refine' For_invV s.heap (by rfl) (by rfl) ?_ (by intro _; rfl) (by passes_own)
  k_extra "go"
  refine' for_list (σ := LaidS) (l := l) (vs := lv) rfl ?hl ?hlL ?F ?N
    (fun i c => c.pl = c.st.pos + 1 ∧ c.st = (ns.take i).foldl lstep ⟨txt, 128, -1⟩ ∧ StrsAre c.vs ((txt :: lays ⟨txt, 128, -1⟩ (ns.take i)).map strOf) ∧ c.st.txt.length = txt.length + i ∧ i ≤ ns.length ∧ -1 ≤ c.st.pos ∧ c.st.pos ≤ 20 ∧ 0 ≤ c.st.code ∧ c.st.code ≤ 200 + 2100 * i)
    (fun c => [(tl, listOf c.vs.toArray c.n)]) (fun c => [("texts", .r tl), ("signs", .s (strOf c.st.txt)), ("code", .i c.st.code), ("place", .i c.pl)]) [tl] (fun _ => rfl) ⟨⟨txt, 128, -1⟩, 0, [.str (strOf txt) t1], 0⟩ ?hm ?hn ?hI ?turn ?done
  case F => assumption
  case N => assumption
  case hl => exact hll.at fun o e => Fr.keep (by assumption) _ _ e
  case hlL => exact base_ne (by assumption) hll
  case hm => k_extra "has"
  case hn => exact fun p hp => hp
  case hI => refine ⟨?_, rfl, ?_, ?_, ?_, ?_, ?_, ?_, ?_⟩ <;> first | exact .cons _ _ .nil | omega | (dsimp only; omega)
  case done =>
    rintro ⟨⟨tx, cd, ps⟩, pl, vs, n⟩ u TT h tk hI F N
    dsimp only [vals, Dv.v] at F hI
    k_extra "go"
    show Q (Value.ref _) _
    refine hret _ _ _ F.keep ⟨_, _, rfl, N.fresh (.head _), N.get (.head _), vs, n, rfl, ?_⟩
    have := hI.2.2.1
    rwa [List.take_of_length_le (by rw [hli.length]; exact Nat.le_refl _)] at this
  case turn =>
    rintro i v ⟨⟨tx, cd, ps⟩, pl, vs, n⟩ u TT h tk own hv hI hoff F N
    dsimp only [vals, Dv.v, List.cons_append, List.nil_append] at F N hI
    obtain ⟨N0, tn, hn0, rfl⟩ := ints_at hli hv
    have hN0 := hns N0 (List.mem_of_getElem? hn0)
    obtain ⟨hpl, hst, hvs, hlen, hil, hp0, hp1, hc0, hc1⟩ := hI
    have hil' : i < ns.length := (List.getElem?_eq_some_iff.mp hn0).1
    k_extra "go"
    refine' while_rule (σ := Int × Int) (fun c => 0 ≤ c.1 ∧ (c.2 - cd) * ((tx.length : Int) + 1) + c.1 = pl + N0 ∧ cd ≤ c.2) (fun _ => (tl, listOf vs.toArray n) :: own)
      (fun c => [("texts", .r tl), ("signs", .s (strOf tx)), ("left", .i c.1), ("places", .i ((tx.length : Int) + 1)), ("code", .i c.2)]) (fun c => c.1.toNat) (pl + N0, cd) ?Fb ?Nb ?hmb ?hnb ?hIb ?turnb ?hEb
    case Fb => assumption
    case Nb => assumption
    case hnb => exact fun p hp => hp
    case hmb => k_extra "has"
    case hEb => passes_own
    case hIb => refine ⟨?_, ?_, ?_⟩ <;> dsimp only <;> omega
    rintro ⟨lf, co⟩ u2 TT2 h2 tk2 hI2 F2 N2
    dsimp only [vals, Dv.v] at F2 N2 hI2
    clear F N
    have hP : (1 : Int) ≤ (tx.length : Int) + 1 := by omega
    k_extra "go"
    · refine wpost (lf - 50 * ((tx.length : Int) + 1), co + 50) (by assumption) (by assumption) (fun p hp => hp) (by k_extra "has") ?_ ?_
      · dsimp only
        have := step_mul co cd 50 ((tx.length : Int) + 1)
        generalize (co - cd) * ((tx.length : Int) + 1) = M at *
        generalize (co + 50 - cd) * ((tx.length : Int) + 1) = M' at *
        omega
      · dsimp only; omega
    refine' while_rule (σ := Int × Int) (fun c => 0 ≤ c.1 ∧ (c.2 - cd) * ((tx.length : Int) + 1) + c.1 = pl + N0 ∧ cd ≤ c.2) (fun _ => (tl, listOf vs.toArray n) :: own)
      (fun c => [("texts", .r tl), ("signs", .s (strOf tx)), ("left", .i c.1), ("places", .i ((tx.length : Int) + 1)), ("code", .i c.2)]) (fun c => c.1.toNat) (lf, co) ?Fc ?Nc ?hmc ?hnc ?hIc ?turnc ?hEc
    case Fc => assumption
    case Nc => assumption
    case hnc => exact fun p hp => hp
    case hmc => k_extra "has"
    case hEc => passes_own
    case hIc => exact hI2
    rintro ⟨lf, co⟩ u2 TT2 h2 tk2 hI2 F2 N2
    dsimp only [vals, Dv.v] at F2 N2 hI2
    have o1 : ∀ p ∈ own, p.1 ≠ tl := fun p hp => hoff p hp tl (.head _) (fun e => by
      obtain ⟨ol, hol, _⟩ := hll
      have := N2.fresh (.head _)
      rw [e, hol] at this; cases this)
    have hvl : vs.length < 100000 := by
      have := hvs.length
      simp only [List.map_cons, List.length_cons, List.length_map, lays_length, List.length_take] at this
      omega
    have hcb : cd ≤ co ∧ co ≤ cd + 2100 := by
      have h1 : (co - cd) * 1 ≤ (co - cd) * ((tx.length : Int) + 1) := Int.mul_le_mul_of_nonneg_left hP (by omega)
      generalize (co - cd) * ((tx.length : Int) + 1) = M at *
      omega
    k_extra "go"
    · refine wpost (lf - ((tx.length : Int) + 1), co + 1) (by assumption) (by assumption) (fun p hp => hp) (by k_extra "has") ?_ ?_
      · dsimp only
        have := step_mul co cd 1 ((tx.length : Int) + 1)
        generalize (co - cd) * ((tx.length : Int) + 1) = M at *
        generalize (co + 1 - cd) * ((tx.length : Int) + 1) = M' at *
        omega
      · dsimp only; omega
    have hdm := divmod_is (q := ps + (N0 + 1)) (P := (tx.length : Int) + 1) (d := co - cd) (l := lf) hI2.1 (by omega) (by rw [hI2.2.1]; omega)
    have hls : lstep ⟨tx, cd, ps⟩ N0 = ⟨tx.take lf.toNat ++ [co.toNat] ++ tx.drop lf.toNat, co, lf⟩ := by
      unfold lstep
      dsimp only
      rw [hdm.1, hdm.2]
      have : cd + (co - cd) = co := by omega
      rw [this]
    have htk : ns.take (i + 1) = ns.take i ++ [N0] := by rw [List.take_add_one, hn0]; rfl
    refine fpost ⟨⟨tx.take lf.toNat ++ [co.toNat] ++ tx.drop lf.toNat, co, lf⟩, lf + 1, _, _⟩ (by assumption) (by assumption) sub1 subT (by k_extra "has") ⟨rfl, ?_, ?_, ?_, ?_, ?_, ?_, ?_, ?_⟩
    · dsimp only; rw [htk, List.foldl_append, ← hst]; exact hls.symm
    · dsimp only
      rw [htk, lays_append, ← hst]
      have : lays ⟨tx, cd, ps⟩ [N0] = [tx.take lf.toNat ++ [co.toNat] ++ tx.drop lf.toNat] := by show [(lstep _ _).txt] = _; rw [hls]
      rw [this, ← List.cons_append, List.map_append]
      exact StrsAre_snoc hvs _ _
    · have := lstep_len ⟨tx, cd, ps⟩ N0
      rw [hls] at this
      dsimp only at this ⊢
      omega
    all_goals ((try dsimp only); omega)

/-! contracts and frames, where no such decoder stands -/
def TellsC (w : World) (mean : ExcName → Option Value) (mg mb : Str → Option Value) (lv : Nat) (f : Addr) (vs : List Value) (pre : Heap → Prop) (R : Value → Heap → Heap → Prop) : Prop :=
  ∀ (dp un : Nat) (gd : Option (List Code)) (outer : List Env) (base : Heap) (s : Shared) (Q : Value → Shared → Prop),
    Below (Ar dp un gd outer) base outer s.heap → (hd.heap_39 w.params).In s.heap → TopF mean mg mb s.heap → pre s.heap → Room dp un lv →
    (∀ v h' tk', s.heap.StaysIn h' → R v s.heap h' → Q v { s with heap := h', toks := tk' }) →
    wpC (model PySem.Challenge.rw_nb0162_01.row.prog w) (Ar dp un gd outer) (call (.ref f) vs) Q s
theorem enterC {w : World} {mean : ExcName → Option Value} {mg mb : Str → Option Value} {dp un : Nat} {gd : Option (List Code)} {outer : List Env} {base : Heap} {s : Shared} {Q : Value → Shared → Prop}
    {name qual : Str} {params : Arguments} {body : List Stmt} {scope : Scope} {dV kV doc pm cdv ct oc : Value} {an od : Option Addr} {osl : Array (Option Value)} {f : Addr} {vs : List Value} (binds : List (Str × Value))
    (B : Below (Ar dp un gd outer) base outer s.heap) (X : (hd.heap_39 w.params).In s.heap) (T : TopF mean mg mb s.heap) (hroom : dp < recursionLimit)
    (ho : (hd.heap_39 w.params).lookup f = some ⟨oc, od, .func (fnOf name qual params body scope dV kV doc pm an cdv ct), osl⟩) (hcd : codeIn (hd.heap_39 w.params) cdv qual = true)
    (hbind : bindArgs (fnOf name qual params body scope dV kV doc pm an cdv ct) ⟨vs, []⟩ = pure binds) (hloc : (binds.all fun x => decide (scope.names.lookup x.1 = some .local)) = true)
    (hbl : apartB binds = true)
    (h : ∀ L h₁ tk u, Fr s.heap L h₁ (ov binds u) → News s.heap L h₁ [] →
      wpC (model PySem.Challenge.rw_nb0162_01.row.prog w) (Ar (dp + 1) (un + 3) gd (envOf qual scope L f cdv :: outer)) (execs body (envOf qual scope L f cdv))
        (fun fl s' => Q (match fl with | .ret v => v | _ => .none) s')
        { s with heap := h₁, toks := tk })
    (hcell : ∀ x ∈ scope.names, x.2 ≠ .cell) (hco : scope.isCoroutine = false) (hgen : scope.isGenerator = false) (hk : scope.kind = .function) :
    wpC (model PySem.Challenge.rw_nb0162_01.row.prog w) (Ar dp un gd outer) (call (.ref f) vs) Q s := by
  refine wpC_call (codeC_call_def (fd := fnOf name qual params body scope dV kV doc pm an cdv ct) (body := body) (binds := binds) hroom (X _ _ ho) rfl T.nolimit (codeRec_of X hcd) rfl hbind hcell (locs hloc) (fun h₁ hns hk₁ => ?_) hco hgen hk)
  exact wpC_mono (h s.heap.objs.size h₁ _ _ (Fr.ov ⟨hns, hk₁, Nat.le_refl _⟩ (binds_has (apartB_nodup hbl))) News.nil) (fun _ _ x => x)
theorem TellsC.use {w : World} {mean : ExcName → Option Value} {mg mb : Str → Option Value} {lv : Nat} {f : Addr} {vs : List Value} {pre : Heap → Prop} {R : Value → Heap → Heap → Prop}
    {A₀ : Around} {base h₀ : Heap} {outer : List Env} {dp un : Nat} {gd : Option (List Code)} {L a : Addr} {m : Str → Option Value} {name : Str} {scope : Scope} {cd : Value} {news : List (Addr × Obj)} {s : Shared} {Q : Value → Shared → Prop}
    (C : TellsC w mean mg mb lv f vs pre R) (B : Below A₀ base outer h₀) (F : Fr h₀ L s.heap m) (X : (hd.heap_39 w.params).In h₀) (N : News h₀ L s.heap news) (T : TopF mean mg mb h₀) (hk : scope.kind = .function) (hp : pre s.heap)
    (hd : Room dp un lv)
    (k : ∀ v h' tk', Fr h₀ L h' m → News h₀ L h' news → R v s.heap h' → s.heap.StaysIn h' → Q v { s with heap := h', toks := tk' }) :
    wpC (model PySem.Challenge.rw_nb0162_01.row.prog w) (Ar dp un gd (envOf name scope L a cd :: outer)) (call (.ref f) vs) Q s :=
  C dp un gd _ base s Q (below_here B F hk) (X.keeps F.keep) (T.keeps F.keep) hp hd fun v h' tk' st r => k v h' tk' (fr_stays F st) (news_stays N st) r st
section
variable {w : World} {mean : ExcName → Option Value} {mg mb : Str → Option Value} {A : Around} {s : Shared} {name : Str} {scope : Scope} {L a : Addr} {cd : Value} {h₀ : Heap} {l : List (Str × Value)} {u : Str → Option Value} {news : List (Addr × Obj)} {prog : Program}
/-- a call of a def, the def at fa -/
theorem callC_ae {x : Str} {np pos : Pos} {e : Expr} {rest : List Expr} {fa : Addr} {Q : Value → Shared → Prop} (F : Fr h₀ L s.heap (ov l u)) (X : (hd.heap_39 w.params).In h₀) (T : TopF mean mg mb h₀)
    (hn : nsIn (hd.heap_39 w.params) mainGlobals x = some (some (.ref fa))) (hkp : keepIn (hd.heap_39 w.params) (.ref fa) = true) (hk : scope.kind = .function) (hx : some NameKind.globalImplicit = (envOf name scope L a cd).kindOf x) (hdb : (x == ("__debug__" : Str)) = false)
    (he : starEach (e :: rest) (envOf name scope L a cd) = (false, eval e (envOf name scope L a cd)) :: starEach rest (envOf name scope L a cd)) (hpl : (backTo pos (starEach rest (envOf name scope L a cd))).any (·.1) = false)
    (as : wpAny (model prog w) A (spliced (backTo pos (starEach (e :: rest) (envOf name scope L a cd)))) (fun vs s₁ => (hd.heap_39 w.params).In s₁.heap ∧ wpC (model prog w) A (call (.ref fa) vs) Q s₁) (fun _ _ => False) s) :
    wpC (model prog w) A (eval (.Call (.Name x np) (e :: rest) [] pos) (envOf name scope L a cd)) Q s := by
  show wpC _ A (eval (.Name x np) _ >>= fun f => callWith pos f [] (backTo pos (starEach (e :: rest) (envOf name scope L a cd))) (backToKw pos (keywordEach [] _))) Q s
  refine wpC_then (name_K F X (topRead_of T) hn ?_ hk hx.symm hdb)
  rw [he] at as ⊢
  exact callWithC (P := (_ : Frag).In) (by show ((false || (backTo pos (starEach rest (envOf name scope L a cd))).any (·.1)) || false) = false; rw [hpl]; rfl) (keeps_K hkp) (Calls.evalArgs_plain as)
/-- a new, empty bytearray -/
theorem new_ba {x : Str} {np p pos pos' : Pos} {Q : Flow → Shared → Prop} (F : Fr h₀ L s.heap (ov l u)) (N : News h₀ L s.heap news) (X : (hd.heap_39 w.params).In h₀) (T : TopF mean mg mb h₀)
    (hn : nsIn (hd.heap_39 w.params) mainGlobals "bytearray" = some none) (hb : bootBuiltins "bytearray" = some (.type "bytearray")) (hk : scope.kind = .function) (hx : some NameKind.globalImplicit = (envOf name scope L a cd).kindOf "bytearray") (hl : some NameKind.local = (envOf name scope L a cd).kindOf x)
    (hs : swapsWith (.Call (.Name "bytearray" np) [] [] pos') (some (.Name x p)) pos.line (envOf name scope L a cd) = pure false)
    (k : ∀ b h' tk, Fr h₀ L h' (ov ((x, .ref b) :: l) u) → News h₀ L h' ((b, baObj []) :: news) → (∀ q ∈ news, q.1 ≠ b) → Q .next { s with heap := h', toks := tk }) :
    wpC (model prog w) A (exec (.Assign [.Name x p] (.Call (.Name "bytearray" np) [] [] pos') pos) (envOf name scope L a cd)) Q s := by
  refine assignC ?_ hs
  show wpC _ A (eval (.Name "bytearray" np) _ >>= fun f => callWith pos' f [] [] []) _ s
  refine wpC_then (name_B F X (topRead_of T) hn hb (by decide) ?_ hk hx.symm (by decide))
  refine callWithC (P := fun _ => True) rfl (fun h _ => ⟨.machine, .inr (.inl rfl), .now⟩) (evalArgs_nil3 ⟨trivial, callC_ba fun b h' h1 h2 h3 => ?_⟩)
  refine st_ov (s := { s with heap := h' }) (fr_stays F h3) (news_new F N h3 h1 h2) (fun h'' tk F' N' => k b h'' tk F' N' ?_) hk hl
  exact ne_of_new N h2
/-- result.append(e), result.extend(e) -/
theorem methodC {o e : Expr} {mn : Str} {id : String} {apos pos : Pos} {env : Env} {q : Addr} {b : List UInt8} {Q : Value → Shared → Prop} (slot : Slot "bytearray" mn id) (hty : typeOf (.builtin id) = pure (.type "method_descriptor"))
    (hbase : attributeBase o mn env (eval o env) = eval o env) (hline : (apos.endLine == pos.line) = true) (hsp : starEach [e] env = [(false, eval e env)])
    (h : wpAny (model prog w) A (eval o env) (fun ov s₁ => ov = .ref q ∧ s₁.heap.get? q = some (baObj b) ∧ wpAny (model prog w) A (eval e env) (fun v s₂ => wpC (model prog w) A (call (.builtin id) [.ref q, v]) Q s₂) (fun _ _ => False) s₁) (fun _ _ => False) s) :
    wpC (model prog w) A (eval (.Call (.Attribute o mn apos) [e] [] pos) env) Q s := by
  rw [arm_eval_Call, hbase]
  refine wpC_then (wpAny_mono h (fun v s₁ h₁ => ?_) fun _ _ e => e)
  obtain ⟨rfl, hq, hc⟩ := h₁
  refine wpC_then (wpAny_standAt ?_)
  have hbt : backTo pos (starEach [e] env) = backTo pos [(false, eval e env)] := by rw [hsp]
  have hform : methodCallForm ([e].length + ([] : List Keyword).length) (backTo pos (starEach [e] env)) (backToKw pos (keywordEach [] env)) = true := by rw [hsp]; rfl
  have hpos : methodCallPos true o env apos pos = pure pos := by unfold methodCallPos; simp [hline]
  unfold methodCall
  rw [hform]
  refine wpC_then (wpAny_holding (getMethod_builtin ⟨_, hq, rfl⟩ BF.plain_attrs slot hty (fun a e => by cases e; exact ⟨_, hq, rfl⟩) ?_))
  refine wpC_then (wpAny_of_eq hpos ?_)
  rw [hsp]
  refine callWithC (P := fun _ => True) rfl (fun h _ => ⟨.machine, .inr (.inl rfl), .now⟩) (Calls.evalArgs_plain (Calls.spliced_cons ?_))
  exact wpAny_mono hc (fun v s₂ h₂ => Calls.spliced_nil ⟨trivial, h₂⟩) fun _ _ x => x
theorem fr_set {h h' : Heap} {m : Str → Option Value} {D : Addr} {o o' : Obj} {news' : List (Addr × Obj)} (F : Fr h₀ L h m) (N : News h₀ L h news) (U : Upd D o o' news news') (ho : h'.get? D = some o') (hs : Heap.SameBut D h h') : Fr h₀ L h' m ∧ News h₀ L h' news' := by
  obtain ⟨pre, post, rfl, rfl, a, b⟩ := U.split
  have z := N (D, o) (List.mem_append.mpr (.inr (.head _)))
  exact ⟨F.change hs z.2.1 z.2.2, news_set N a b hs ho⟩
theorem upd_get {h : Heap} {D : Addr} {o o' : Obj} {news' : List (Addr × Obj)} (N : News h₀ L h news) (U : Upd D o o' news news') : h.get? D = some o := by
  obtain ⟨pre, post, rfl, rfl, a, b⟩ := U.split
  exact (N (D, o) (List.mem_append.mpr (.inr (.head _)))).1
theorem append_C {x : Str} {np apos pos pos' : Pos} {e : Expr} {D : Addr} {b : List UInt8} {c : UInt8} {n : Int} {Q : Flow → Shared → Prop} {news' : List (Addr × Obj)} (F : Fr h₀ L s.heap (ov l u)) (N : News h₀ L s.heap news) (U : Upd D (baObj b) (baObj (b ++ [c])) news news')
    (hv : some (Value.ref D) = ov l u x) (he : ∀ Q' : Value → Shared → Prop, (∀ t tk, Q' (.int n t) { s with toks := tk }) → wpAny (model prog w) A (eval e (envOf name scope L a cd)) Q' (fun _ _ => False) s) (hn : n = (c.toNat : Nat)) (hlen : b.length < 100000)
    (k : ∀ h' tk, Fr h₀ L h' (ov l u) → News h₀ L h' news' → Q .next { s with heap := h', toks := tk })
    (hk : scope.kind = .function) (hx : some NameKind.local = (envOf name scope L a cd).kindOf x) (hdb : (x == ("__debug__" : Str)) = false) (hline : (apos.endLine == pos.line) = true) (hsp : starEach [e] (envOf name scope L a cd) = [(false, eval e (envOf name scope L a cd))])
    (hi : interactive (envOf name scope L a cd) = false) (hs : swapsWith (.Call (.Attribute (.Name x np) "append" apos) [e] [] pos) none pos'.line (envOf name scope L a cd) = pure false)
    (hbase : attributeBase (.Name x np) "append" (envOf name scope L a cd) (eval (.Name x np) (envOf name scope L a cd)) = eval (.Name x np) (envOf name scope L a cd)) :
    wpC (model prog w) A (exec (.Expr (.Call (.Attribute (.Name x np) "append" apos) [e] [] pos) pos') (envOf name scope L a cd)) Q s := by
  refine exprC (methodC BF.slot_append (by kernel_rfl) hbase hline hsp (ld_ov F hv ⟨rfl, upd_get N U, he _ fun t tk => ?_⟩ hk hx hdb)) hi hs
  refine callC_append (s := { s with toks := tk }) (upd_get N U) hn hlen fun h' h1 h2 => ⟨rfl, ?_⟩
  have := fr_set F N U h1 h2
  exact k h' tk this.1 this.2
theorem extend_C {x y : Str} {np yp apos pos pos' : Pos} {D : Addr} {b more : List UInt8} {t : Tok} {Q : Flow → Shared → Prop} {news' : List (Addr × Obj)} (F : Fr h₀ L s.heap (ov l u)) (N : News h₀ L s.heap news) (U : Upd D (baObj b) (baObj (b ++ more)) news news')
    (hv : some (Value.ref D) = ov l u x) (hy : some (Value.bytes more.toArray t) = ov l u y) (hlen : b.length + more.length < 100000)
    (k : ∀ h' tk, Fr h₀ L h' (ov l u) → News h₀ L h' news' → Q .next { s with heap := h', toks := tk })
    (hk : scope.kind = .function) (hx : some NameKind.local = (envOf name scope L a cd).kindOf x) (hx' : some NameKind.local = (envOf name scope L a cd).kindOf y) (hdb : (x == ("__debug__" : Str)) = false) (hdb' : (y == ("__debug__" : Str)) = false) (hline : (apos.endLine == pos.line) = true)
    (hi : interactive (envOf name scope L a cd) = false) (hs : swapsWith (.Call (.Attribute (.Name x np) "extend" apos) [.Name y yp] [] pos) none pos'.line (envOf name scope L a cd) = pure false)
    (hbase : attributeBase (.Name x np) "extend" (envOf name scope L a cd) (eval (.Name x np) (envOf name scope L a cd)) = eval (.Name x np) (envOf name scope L a cd)) :
    wpC (model prog w) A (exec (.Expr (.Call (.Attribute (.Name x np) "extend" apos) [.Name y yp] [] pos) pos') (envOf name scope L a cd)) Q s := by
  refine exprC (methodC BF.slot_extend (by kernel_rfl) hbase hline rfl (ld_ov F hv ⟨rfl, upd_get N U, ld_ov F hy ?_ hk hx' hdb'⟩ hk hx hdb)) hi hs
  refine callC_extend (upd_get N U) hlen fun h' h1 h2 => ⟨rfl, ?_⟩
  have := fr_set F N U h1 h2
  exact k h' s.toks this.1 this.2
theorem assign_callC {x f : Str} {np p pos pos' : Pos} {e : Expr} {rest : List Expr} {fs : List (Tok → Value)} {fa : Addr} {Q : Flow → Shared → Prop} (F : Fr h₀ L s.heap (ov l u)) (X : (hd.heap_39 w.params).In h₀) (T : TopF mean mg mb h₀)
    (hn : nsIn (hd.heap_39 w.params) mainGlobals f = some (some (.ref fa))) (hkp : keepIn (hd.heap_39 w.params) (.ref fa) = true) (hk : scope.kind = .function) (hx : some NameKind.globalImplicit = (envOf name scope L a cd).kindOf f) (hdb : (f == ("__debug__" : Str)) = false)
    (hs : swapsWith (.Call (.Name f np) (e :: rest) [] pos') (some (.Name x p)) pos.line (envOf name scope L a cd) = pure false) (as : AEs scope l u (e :: rest) fs)
    (k : ∀ T tk, wpC (model prog w) A (call (.ref fa) (toked fs T)) (fun v s₁ => wpAny (model prog w) A (storeName (envOf name scope L a cd) x v) (fun _ => Q .next) (fun _ _ => False) s₁) { s with toks := tk }) :
    wpC (model prog w) A (exec (.Assign [.Name x p] (.Call (.Name f np) (e :: rest) [] pos') pos) (envOf name scope L a cd)) Q s := by
  refine assignC ?_ hs
  cases as with
  | cons h1 h2 => exact callC_ae F X T hn hkp hk hx hdb (h1.plain _ _) (h2.plain _ _) ((AEs.cons h1 h2).run hk F fun T k1 => ⟨X.keeps F.keep, k T k1⟩)
end

theorem while_ruleC {prog : Program} {w : World} {A : Around} {Q : Flow → Shared → Prop} {s : Shared} {env : Env} {h₀ : Heap} {L : Addr} {σ : Type} {test : Expr} {body : List Stmt} {pos : Pos} {m₀ : Str → Option Value} {news : List (Addr × Obj)}
    (I : σ → Prop) (led : σ → List (Addr × Obj)) (loc : σ → List (Str × Dv)) (μ : σ → Nat) (c₀ : σ)
    (F : Fr h₀ L s.heap m₀) (N : News h₀ L s.heap news) (hm : HasD m₀ (loc c₀)) (hn : ∀ p ∈ led c₀, p ∈ news) (hI : I c₀)
    (turn : ∀ (c : σ) (u : Str → Option Value) (T : Nat → Tok) (h : Heap) (tk : Nat), I c → Fr h₀ L h (ov (vals (loc c) T) u) → News h₀ L h (led c) →
      wpC (model prog w) A (isTrue test env (eval test env)) (fun b s₂ =>
        if b = true then wpC (model prog w) A (execs body env) (WPost h₀ L s I led loc μ Q c) s₂ else Q .next s₂) { s with heap := h, toks := tk }) :
    wpC (model prog w) A (exec (.While test body [] pos) env) Q s := by
  rw [exec_While]
  refine wpC_then (wpAny_standAt (wpC_runOwn (whileC (fun n s' => ∃ (c : σ) (h : Heap) (tk : Nat) (m : Str → Option Value), s' = { s with heap := h, toks := tk } ∧ Fr h₀ L h m ∧ News h₀ L h (led c) ∧ HasD m (loc c) ∧ I c ∧ μ c = n) ?_ (μ c₀) _ ⟨c₀, s.heap, s.toks, m₀, rfl, F, fun p hp => N p (hn p hp), hm, hI, rfl⟩) rfl))
  rintro n s' ⟨c, h, tk, m, rfl, F₁, N₁, hm₁, hI₁, rfl⟩
  obtain ⟨T, hT⟩ := hm₁.vals
  refine wpC_mono (turn c m T h tk hI₁ (Fr.ov F₁ hT) N₁) fun b s₂ p => ?_
  cases b with
  | false => exact p
  | true =>
    refine wpC_mono p fun f s₃ q => ?_
    cases f with
    | ret v => exact q
    | brk => exact q
    | _ =>
      obtain ⟨c', h', tk', m', news', rfl, F', N', hn', hm9, hI9, hμ9⟩ := q
      exact ⟨_, hμ9, c', h', tk', m', rfl, F', fun p hp => N' p (hn' p hp), hm9, hI9, rfl⟩
structure GgS where
  f : Nat
  j : Int
  n : Int
  acc : List UInt8
structure GgI (N bias : Int) (c : GgS) : Prop where
  val : c.acc ++ (encD bias (c.f + 1) c.j c.n).map lo = (encD bias 8 0 N).map lo
  n0 : 0 ≤ c.n
  n1 : c.n < 2000
  nf : c.n < 10 ^ c.f
  jf : c.j + c.f = 7
  j0 : 0 ≤ c.j
theorem gg_len {N bias : Int} {c : GgS} (I : GgI N bias c) : c.acc.length < 100 := by
  have h1 := encD_len bias 8 0 N
  have h2 : c.acc.length ≤ ((encD bias 8 0 N).map lo).length := by rw [← I.val, List.length_append]; exact Nat.le_add_right _ _
  rw [List.length_map] at h2
  omega
theorem gg_last {N bias : Int} {c : GgS} (I : GgI N bias c) (h : c.n < tval c.j bias) : c.acc ++ [lo c.n] = (encD bias 8 0 N).map lo := by
  have := I.val
  rw [encD, if_pos h] at this
  exact this
theorem gg_next {N bias : Int} {c : GgS} (I : GgI N bias c) (h : ¬ c.n < tval c.j bias) : ∃ f', GgI N bias ⟨f', c.j + 1, (c.n - tval c.j bias).fdiv (36 - tval c.j bias), c.acc ++ [lo (tval c.j bias + (c.n - tval c.j bias).fmod (36 - tval c.j bias))]⟩ ∧
    ((c.n - tval c.j bias).fdiv (36 - tval c.j bias)).toNat < c.n.toNat ∧ 0 ≤ tval c.j bias + (c.n - tval c.j bias).fmod (36 - tval c.j bias) ∧ tval c.j bias + (c.n - tval c.j bias).fmod (36 - tval c.j bias) < 36 := by
  obtain ⟨f, j, n, acc⟩ := c
  obtain ⟨hv, h0, h1, hf, hj, hj0⟩ := I
  dsimp only at *
  have htv := tval_bounds j bias
  have hs := enc_step htv (N := n) (by omega)
  have hf1 : f ≠ 0 := by
    rintro rfl
    have : n < 1 := hf
    omega
  obtain ⟨f', rfl⟩ : ∃ f', f = f' + 1 := ⟨f - 1, by omega⟩
  rw [encD, if_neg h] at hv
  have e7 : (10 : Int) ^ (f' + 1) = 10 ^ f' * 10 := rfl
  rw [e7] at hf
  refine ⟨f', ⟨?_, hs.2.2.1, ?_, ?_, ?_, ?_⟩, ?_, ?_, hs.2.1⟩
  · rw [← hv]; simp
  · dsimp only; omega
  · dsimp only; generalize (10 : Int) ^ f' = T at *; omega
  · dsimp only; omega
  · dsimp only; omega
  · omega
  · omega
abbrev digitL : List UInt8 := [97, 98, 99, 100, 101, 102, 103, 104, 105, 106, 107, 108, 109, 110, 111, 112, 113, 114, 115, 116, 117, 118, 119, 120, 121, 122, 48, 49, 50, 51, 52, 53, 54, 55, 56, 57]
theorem digit_is {d : Int} (h0 : 0 ≤ d) (h1 : d < 36) : digitL.getD d.toNat 0 = lo d := by
  have h : ∀ k : Fin 36, digitL.getD k.val 0 = lo (k.val : Nat) := by decide +kernel
  have := h ⟨d.toNat, by omega⟩
  rw [this]
  exact congrArg lo (Int.toNat_of_nonneg h0)
theorem digit_at {prog : Program} {w : World} {A : Around} {E : Value → Shared → Prop} {s : Shared} {e i : Expr} {d : Int} {t0 t : Tok} {Q : Value → Shared → Prop} (h0 : 0 ≤ d) (h1 : d < 36) (h : ∀ t tk, Q (.int ((lo d).toNat : Nat) t) { s with toks := tk })
    (hs : subscripted i false (.bytes digitL.toArray t0) (.int d t) = operate [.bytes digitL.toArray t0, .int d t] (getItem (.bytes digitL.toArray t0) (.int d t))) (ht : ∀ r, letTemporaryGo e (.bytes digitL.toArray t0) r = pure ()) :
    wpAny (model prog w) A (subscriptTail e i (.bytes digitL.toArray t0) (.int d t)) Q E s :=
  bytes_item_K (by decide) h0 h1 (by rw [digit_is h0 h1]) (h _ _) hs ht
theorem ggi_tells (w : World) (mean : ExcName → Option Value) (mg mb : Str → Option Value) (N bias : Int) (t1 t2 : Tok) (hN : 0 ≤ N ∧ N < 2000) (hb : 0 ≤ bias ∧ bias ≤ 72) :
    TellsC w mean mg mb 2 28 [.int N t1, .int bias t2] (fun _ => True) (fun v h h' => ∃ t, v = .bytes ((encD bias 8 0 N).map lo).toArray t) := by
  unfold TellsC
  k_fill
  intro dp un gd outer base s Q B X T hpre hroom hret
  have I₀ : GgI N bias ⟨7, 0, N, []⟩ := ⟨rfl, hN.1, hN.2, by dsimp only; omega, by dsimp only; decide, by dsimp only; decide⟩
  have hb : 0 ≤ bias ∧ bias < 1000 := ⟨hb.1, by omega⟩
  refine enterC [("N", .int N t1), ("bias", .int bias t2)] (by assumption) (by assumption) (by assumption) (Room.here (by assumption)) (by k_is) (by k_is) (by exact rfl) (by exact rfl) (by exact rfl) ?_ (by decide) (by exact rfl) (by exact rfl) (by exact rfl)
  intro L h₁ tk u F N
  refine execsC_cons (new_ba F N (by assumption) (by assumption) (by k_is) (by kernel_rfl) (by exact rfl) (by exact rfl) (by exact rfl) (by exact rfl) ?_)
  intro D h2 tk2 F2 N2 _
  refine then_next (execsC_any ?_)
  k_extra "go"
  refine then_next (execsC_cons (while_ruleC (σ := GgS) (GgI N bias) (fun c => [(D, baObj c.acc)])
    (fun c => [("result", .r D), ("N", .i c.n), ("bias", .i bias), ("j", .i c.j)]) (fun c => c.n.toNat) ⟨7, 0, N, []⟩ F' N' (by k_extra "has") (fun p hp => hp) I₀ ?_))
  clear F' N'
  intro c u TT h tk hI F NN
  dsimp only [vals, Dv.v] at F
  have hj : 0 ≤ c.j ∧ c.j < 100 := ⟨hI.j0, by have := hI.jf; omega⟩
  refine wpC_any ?_
  k_extra "go"
  refine execsC_any ?_
  k_extra "go"
  refine then_next (execsC_cons (ifC (wpC_any ?_)))
  k_extra "go"
  · refine execsC_cons (append_C (c := lo c.n) (n := ((lo c.n).toNat : Nat)) F' N' (.head fun p hp => nomatch hp) (by exact rfl) ?_ rfl (by have := gg_len hI; omega) ?_ (by exact rfl) (by exact rfl) (by exact rfl) (by exact rfl) (by exact rfl) (by exact rfl) (by exact rfl) (by exact rfl))
    · intro Q' hQ'
      k_extra "go"
      refine digit_at hI.n0 (by have := tval_bounds c.j bias; omega) hQ' ?_ ?_
      · with_unfolding_all rfl
      · intro _; with_unfolding_all rfl
    · intro h3 tk3 F3 N3
      refine then_next (execsC_any ?_)
      k_extra "go"
      refine call_bytes_ba (N3.get (.head _)) (by have := gg_len hI; simp only [List.length_append, List.length_cons, List.length_nil]; omega) fun t k => then_ret ?_
      show Q _ { s with heap := h3, toks := k }
      exact ret_bytes hret F3 (by rw [gg_last hI (by assumption)])
  · obtain ⟨f', g1, g2, g3, g4⟩ := gg_next hI (by assumption)
    refine execsC_nil (then_next (execsC_cons (append_C (c := lo (tval c.j bias + (c.n - tval c.j bias).fmod (36 - tval c.j bias))) (n := ((lo (tval c.j bias + (c.n - tval c.j bias).fmod (36 - tval c.j bias))).toNat : Nat)) F' N' (.head fun p hp => nomatch hp) (by exact rfl) ?_ rfl (by have := gg_len hI; omega) ?_ (by exact rfl) (by exact rfl) (by exact rfl) (by exact rfl) (by exact rfl) (by exact rfl) (by exact rfl) (by exact rfl))))
    · intro Q' hQ'
      have htv := tval_bounds c.j bias
      k_extra "go"
      show Q' (.int ((digitL.getD (tval c.j bias + (c.n - tval c.j bias).fmod (36 - tval c.j bias)).toNat 0).toNat : Nat) _) _
      rw [digit_is g3 g4]
      exact hQ' _ _
    · intro h3 tk3 F3 N3
      have htv := tval_bounds c.j bias
      refine then_next (execsC_any ?_)
      clear F'
      k_extra "go"
      refine then_next (execsC_any ?_)
      k_extra "go"
      refine then_next (execsC_nil ?_)
      exact wpost _ F' N' (fun p hp => hp) (by k_extra "has") g1 g2

/-! for x, y in ...: -/
section
variable {prog : Program} {w : World} {A : Around} {s : Shared} {h₀ : Heap} {L a I : Addr} {name : Str} {scope : Scope} {cd : Value} {body : List Stmt} {fp wr : List Addr} {n : Nat} {Pt : Nat → Array Value → Prop} {St : Nat → Heap → Prop} {Mid : Nat → Addr → Heap → Prop}
/-- what a loop's source holds, of what is new -/
def ownOf (h₀ h : Heap) (fp : List Addr) : List (Addr × Obj) := fp.filterMap fun b => if (h₀.get? b).isNone then (h.get? b).map (b, ·) else none
theorem own_mem {h : Heap} {p : Addr × Obj} (hp : p ∈ ownOf h₀ h fp) : p.1 ∈ fp ∧ h₀.get? p.1 = none ∧ h.get? p.1 = some p.2 := by
  obtain ⟨b, hb, e⟩ := List.mem_filterMap.mp hp
  split at e
  · obtain ⟨o, ho, rfl⟩ := Option.map_eq_some_iff.mp e
    exact ⟨hb, Option.isNone_iff_eq_none.mp (by assumption), ho⟩
  · cases e
theorem own_news {h : Heap} (hL : L ∉ fp) : News h₀ L h (ownOf h₀ h fp) := fun p hp => ⟨(own_mem hp).2.2, fun e => hL (e ▸ (own_mem hp).1), (own_mem hp).2.1⟩
theorem own_keeps {h h' : Heap} {m m' : Str → Option Value} {nx : List (Addr × Obj)} (F : Fr h₀ L h m) (F' : Fr h₀ L h' m') (N' : News h₀ L h' nx) (ho : ∀ p ∈ ownOf h₀ h fp, p ∈ nx) : ∀ b ∈ fp, ∀ o, h.get? b = some o → h'.get? b = some o := by
  intro b hb o e
  cases q : h₀.get? b with
  | some o₀ =>
    have := F.keep b o₀ q
    rw [e] at this; cases this
    exact F'.keep b o q
  | none =>
    refine (N' (b, o) (ho _ (List.mem_filterMap.mpr ⟨b, hb, ?_⟩))).1
    rw [q, e]; rfl
/-- one turn's start: the pair is drawn and its parts are named -/
theorem turnT {W : WalksT prog w A I fp wr n Pt St Mid} {E : Value → Shared → Prop} {x y : Str} {px py tp : Pos} {k : Nat} {i : Nat} {m : Str → Option Value} {nx : List (Addr × Obj)} {K : Shared → Prop} {D : Shared → Prop} (hh : A.handled = none) (hst : St i s.heap) (hi : i < n)
    (F : Fr h₀ L s.heap m) (N : News h₀ L s.heap nx) (hLf : L ∉ fp) (hwr : ∀ b ∈ wr, h₀.get? b = none) (hnx : ∀ p ∈ nx, p.1 ∉ wr) (hxy : y ≠ x) (hpt : ∀ vals, Pt i vals → ∃ v1 v2, vals = #[v1, v2])
    (h : ∀ v1 v2 h' tk, Pt i #[v1, v2] → St (i + 1) h' → Fr h₀ L h' (ov [(y, v2), (x, v1)] m) → News h₀ L h' nx → K { s with heap := h', toks := tk })
    (hk : scope.kind = .function) (hx : (envOf name scope L a cd).kindOf x = some .local) (hy : (envOf name scope L a cd).kindOf y = some .local) :
    wpAny (model prog w) A (pyNext (.ref I)) (fun r s₁ => match r with
      | none => D s₁
      | some v => wpAny (model prog w) A (letOwnedTupleGo (.Tuple [.Name x px, .Name y py] k tp) (.ref I) v) (fun _ s₁' =>
          wpAny (model prog w) A (assign (.Tuple [.Name x px, .Name y py] k tp) (envOf name scope L a cd) v) (fun _ s₂ => K s₂) E s₁') E s₁) E s := by
  refine W.item i s _ _ hi hst fun T vals h1 tk1 hp hT hIs hM hk1 => ?_
  obtain ⟨v1, v2, rfl⟩ := hpt vals hp
  have hnL : L ∉ wr := fun e => hLf (W.sub L e)
  have F1 : Fr h₀ L h1 m := ⟨F.ns.at fun o e => hk1 L o hnL e, fun b o e => hk1 b o (fun q => by rw [hwr b q] at e; cases e) (F.keep b o e), F.above⟩
  have N1 : News h₀ L h1 nx := fun p hp => ⟨hk1 _ _ (hnx p hp) (N p hp).1, (N p hp).2⟩
  refine W.go _ _ _ i T _ _ _ hM fun h2 hst2 hk2 => ?_
  have F2 : Fr h₀ L h2 m := ⟨F1.ns.at fun o e => hk2 L o hnL e, fun b o e => hk2 b o (fun q => by rw [hwr b q] at e; cases e) (F1.keep b o e), F1.above⟩
  have N2 : News h₀ L h2 nx := fun p hp => ⟨hk2 _ _ (hnx p hp) (N1 p hp).1, (N1 p hp).2⟩
  have hIs2 : h2.IsTuple T #[v1, v2] := by
    obtain ⟨o, ho, r⟩ := hIs
    exact ⟨o, hk2 T o (W.apart i T _ hM) ho, r⟩
  refine wpAny_assign_Tuple hh hIs2 rfl rfl fun h3 hext => ?_
  have hk3 : h2.StaysIn h3 := fun b o e => hext b o (Nat.ne_of_lt (Heap.lt_size e)) e
  have F3 : Fr h₀ L h3 (ov [] m) := Fr.eqv (fr_stays F2 hk3) fun _ => rfl
  have N3 : News h₀ L h3 (nx ++ ownOf h₀ h3 fp) := fun p hp => (List.mem_append.mp hp).elim (news_stays N2 hk3 p) (own_news hLf p)
  have hst3 : St (i + 1) h3 := W.frame _ _ _ hst2 fun b _ o e => hk3 b o e
  show wpAny _ A (holding [v2] (assign (.Name x px) (envOf name scope L a cd) v1) >>= fun _ => (holding [] (assign (.Name y py) (envOf name scope L a cd) v2) >>= fun _ => pure ())) _ _ _
  refine wpAny_bind (wpAny_holding (wpAny_assign_Name (st_ov F3 N3 (fun h4 tk4 F4 N4 => wpAny_bind (wpAny_holding (wpAny_assign_Name (st_ov F4 N4 (fun h5 tk5 F5 N5 => wpAny_pure ?_) hk hy.symm)))) hk hx.symm)))
  refine h v1 v2 h5 tk5 hp (W.frame _ _ _ hst3 (own_keeps F3 F5 N5 fun p hp => List.mem_append_right _ hp)) F5 fun p hp => N5 p (List.mem_append_left _ hp)
/-- a source of pairs that stands ready at I, apart from what the loop writes -/
def SrcAt (prog : Program) (w : World) (A : Around) (h₀ : Heap) (L : Addr) (src adr : List Addr) (n : Nat) (Pv : Nat → Value → Value → Prop) (I : Addr) (h : Heap) : Prop :=
  ∃ fp wr Pt St Mid, WalksT prog w A I fp wr n Pt St Mid ∧ St 0 h ∧ (∀ i vals, Pt i vals → ∃ v1 v2, vals = #[v1, v2] ∧ Pv i v1 v2) ∧ L ∉ fp ∧ (∀ b ∈ wr, h₀.get? b = none) ∧ (∀ b ∈ adr, b ∉ wr) ∧ ∀ b ∈ adr, b ∉ src → b ∉ fp
theorem forT_C {σ : Type} {R : Flow → Shared → Prop} {x y : Str} {px py tp : Pos} {k : Nat} {src : List Addr} {Pv : Nat → Value → Value → Prop} {m₀ : Str → Option Value} {news : List (Addr × Obj)} (hh : A.handled = none)
    (F : Fr h₀ L s.heap m₀) (N : News h₀ L s.heap news) (hxy : y ≠ x)
    (Inv : Nat → σ → Prop) (led : σ → List (Addr × Obj)) (loc : σ → List (Str × Dv)) (adr : List Addr) (hadr : ∀ c, (led c).map (·.1) = adr) (W : SrcAt prog w A h₀ L src adr n Pv I s.heap) (c₀ : σ)
    (hm : HasD m₀ (loc c₀)) (hn : ∀ p ∈ led c₀, p ∈ news) (hI : Inv 0 c₀)
    (turn : ∀ (i : Nat) (v1 v2 : Value) (c : σ) (u : Str → Option Value) (T : Nat → Tok) (h : Heap) (tk : Nat) (own : List (Addr × Obj)), Pv i v1 v2 → i < n → Inv i c → (∀ b ∈ adr, b ∉ src → ∀ p ∈ own, p.1 ≠ b) →
      Fr h₀ L h (ov ((y, v2) :: (x, v1) :: vals (loc c) T) u) → News h₀ L h (led c ++ own) →
      wpC (model prog w) A (execs body (envOf name scope L a cd)) (FPost h₀ L s Inv led loc R i own) { s with heap := h, toks := tk })
    (done : ∀ (c : σ) (u : Str → Option Value) (T : Nat → Tok) (h : Heap) (tk : Nat), Inv n c → Fr h₀ L h (ov (vals (loc c) T) u) → News h₀ L h (led c) → R .next { s with heap := h, toks := tk })
    (hk : scope.kind = .function) (hx : (envOf name scope L a cd).kindOf x = some .local) (hy : (envOf name scope L a cd).kindOf y = some .local) :
    codeC (model prog w) A (.forLoop (.Tuple [.Name x px, .Name y py] k tp) (.ref I) body [] (envOf name scope L a cd)) R s := by
  obtain ⟨fp, wr, Pt, St, Mid, W, hst, hpt, hLf, hwr, hoff, hofp⟩ := W
  refine forC (fun j s' => ∃ (i : Nat) (c : σ) (h : Heap) (tk : Nat) (m : Str → Option Value), i + j = n ∧ s' = { s with heap := h, toks := tk } ∧ St i h ∧ Fr h₀ L h m ∧ News h₀ L h (led c) ∧ HasD m (loc c) ∧ Inv i c) ?_ n _
    ⟨0, c₀, s.heap, s.toks, m₀, Nat.zero_add _, rfl, hst, F, fun p hp => N p (hn p hp), hm, hI⟩
  rintro j s' ⟨i, c, h, tk, m, hij, rfl, hs, F₁, N₁, hm₁, hI₁⟩
  have hnx : ∀ p ∈ led c, p.1 ∉ wr := fun p hp => hoff _ (hadr c ▸ List.mem_map_of_mem hp)
  obtain ⟨T, hT⟩ := hm₁.vals
  by_cases hi : i < n
  · refine turnT (W := W) hh hs hi F₁ N₁ hLf hwr hnx hxy (fun vals q => let ⟨v1, v2, e, _⟩ := hpt i vals q; ⟨v1, v2, e⟩) (fun v1 v2 h' tk' hp hs' F' N' => ?_) hk hx hy
    obtain ⟨_, _, e, hp⟩ := hpt i _ hp
    obtain ⟨rfl, rfl⟩ : v1 = _ ∧ v2 = _ := by simpa using e
    have F2 : Fr h₀ L h' (ov ((y, v2) :: (x, v1) :: vals (loc c) T) m) := Fr.eqv F' fun z => by
      show (if z = y then some v2 else if z = x then some v1 else m z) = if z = y then some v2 else if z = x then some v1 else ov (vals (loc c) T) m z
      rw [← ov_has hT z]
    refine wpC_mono (turn i v1 v2 c m T h' tk' (ownOf h₀ h' fp) hp hi hI₁ (fun b hb hbs p hp e => hofp b hb hbs (e ▸ (own_mem hp).1)) F2 fun p hp => (List.mem_append.mp hp).elim (N' p) (own_news hLf p)) fun f s₃ q => ?_
    have fin : FPost h₀ L s Inv led loc R i (ownOf h₀ h' fp) .next s₃ → ∃ m, m < j ∧ ∃ (i : Nat) (c : σ) (h : Heap) (tk : Nat) (m' : Str → Option Value), i + m = n ∧ s₃ = { s with heap := h, toks := tk } ∧ St i h ∧ Fr h₀ L h m' ∧ News h₀ L h (led c) ∧ HasD m' (loc c) ∧ Inv i c := by
      rintro ⟨c', h3, tk3, m', news', rfl, F3, N3, hn3, ho3, hm3, hI3⟩
      exact ⟨j - 1, by omega, i + 1, c', h3, tk3, m', by omega, rfl, W.frame _ _ _ hs' (own_keeps F' F3 N3 ho3), F3, fun p hp => N3 p (hn3 p hp), hm3, hI3⟩
    cases f with
    | ret v => exact q
    | brk => exact q
    | next => exact fin q
    | cont => exact fin q
  · obtain rfl : i = n := by omega
    refine W.done _ _ _ hs fun h' tk' hk' => ?_
    have hnL : L ∉ wr := fun e => hLf (W.sub L e)
    refine done c m T h' tk' hI₁ ?_ fun p hp => ⟨hk' _ _ (hnx p hp) (N₁ p hp).1, (N₁ p hp).2⟩
    exact Fr.ov ⟨F₁.ns.at fun o e => hk' L o hnL e, fun b o e => hk' b o (fun q => by rw [hwr b q] at e; cases e) (F₁.keep b o e), F₁.above⟩ hT
/-- the same, under wpAny, with an else -/
theorem forT_E {σ : Type} {Q : Flow → Shared → Prop} {E : Value → Shared → Prop} {x y : Str} {px py tp : Pos} {k : Nat} {orelse : List Stmt} {src : List Addr} {Pv : Nat → Value → Value → Prop} {m₀ : Str → Option Value} {news : List (Addr × Obj)} (hh : A.handled = none)
    (F : Fr h₀ L s.heap m₀) (N : News h₀ L s.heap news) (hxy : y ≠ x)
    (Inv : Nat → σ → Prop) (led : σ → List (Addr × Obj)) (loc : σ → List (Str × Dv)) (adr : List Addr) (hadr : ∀ c, (led c).map (·.1) = adr) (W : SrcAt prog w A h₀ L src adr n Pv I s.heap) (c₀ : σ)
    (hm : HasD m₀ (loc c₀)) (hn : ∀ p ∈ led c₀, p ∈ news) (hI : Inv 0 c₀)
    (turn : ∀ (i : Nat) (v1 v2 : Value) (c : σ) (u : Str → Option Value) (T : Nat → Tok) (h : Heap) (tk : Nat) (own : List (Addr × Obj)) (Z : Flow → Shared → Prop), (∀ v s₃, Q (.ret v) s₃ → Z (.ret v) s₃) →
      (∀ c' h' tk' m' news', Fr h₀ L h' m' → News h₀ L h' news' → (∀ p ∈ led c', p ∈ news') → (∀ p ∈ own, p ∈ news') → HasD m' (loc c') → Inv (i + 1) c' → Z .next { s with heap := h', toks := tk' }) →
      Pv i v1 v2 → i < n → Inv i c → (∀ b ∈ adr, b ∉ src → ∀ p ∈ own, p.1 ≠ b) →
      Fr h₀ L h (ov ((y, v2) :: (x, v1) :: vals (loc c) T) u) → News h₀ L h (led c ++ own) →
      wpAny (model prog w) A (execs body (envOf name scope L a cd)) Z E { s with heap := h, toks := tk })
    (done : ∀ (c : σ) (u : Str → Option Value) (T : Nat → Tok) (h : Heap) (tk : Nat), Inv n c → Fr h₀ L h (ov (vals (loc c) T) u) → News h₀ L h (led c) → wpAny (model prog w) A (execs orelse (envOf name scope L a cd)) Q E { s with heap := h, toks := tk })
    (hE : PassesOwn (model prog w) A (envOf name scope L a cd) E)
    (hk : scope.kind = .function) (hx : (envOf name scope L a cd).kindOf x = some .local) (hy : (envOf name scope L a cd).kindOf y = some .local) :
    codeAny (model prog w) A (.forLoop (.Tuple [.Name x px, .Name y py] k tp) (.ref I) body orelse (envOf name scope L a cd)) (fun r s' => match r with | .ok f => Q f s' | .error e => cameBackBy (model prog w) A (envOf name scope L a cd) E e s') s := by
  obtain ⟨fp, wr, Pt, St, Mid, W, hst, hpt, hLf, hwr, hoff, hofp⟩ := W
  refine codeAny_forLoop_any (fun j s' => ∃ (i : Nat) (c : σ) (h : Heap) (tk : Nat) (m : Str → Option Value), i + j = n ∧ s' = { s with heap := h, toks := tk } ∧ St i h ∧ Fr h₀ L h m ∧ News h₀ L h (led c) ∧ HasD m (loc c) ∧ Inv i c) ?_ n
    ⟨0, c₀, s.heap, s.toks, m₀, Nat.zero_add _, rfl, hst, F, fun p hp => N p (hn p hp), hm, hI⟩
  rintro j s' ⟨i, c, h, tk, m, hij, rfl, hs, F₁, N₁, hm₁, hI₁⟩
  have hnx : ∀ p ∈ led c, p.1 ∉ wr := fun p hp => hoff _ (hadr c ▸ List.mem_map_of_mem hp)
  obtain ⟨T, hT⟩ := hm₁.vals
  by_cases hi : i < n
  · refine turnT (W := W) hh hs hi F₁ N₁ hLf hwr hnx hxy (fun vals q => let ⟨v1, v2, e, _⟩ := hpt i vals q; ⟨v1, v2, e⟩) (fun v1 v2 h' tk' hp hs' F' N' => ?_) hk hx hy
    obtain ⟨_, _, e, hp⟩ := hpt i _ hp
    obtain ⟨rfl, rfl⟩ : v1 = _ ∧ v2 = _ := by simpa using e
    have F2 : Fr h₀ L h' (ov ((y, v2) :: (x, v1) :: vals (loc c) T) m) := Fr.eqv F' fun z => by
      show (if z = y then some v2 else if z = x then some v1 else m z) = if z = y then some v2 else if z = x then some v1 else ov (vals (loc c) T) m z
      rw [← ov_has hT z]
    refine wpAny_passesOwn hE (wpAny_mono (turn i v1 v2 c m T h' tk' (ownOf h₀ h' fp) (FPost h₀ L s Inv led loc Q i (ownOf h₀ h' fp)) (fun _ _ q => q) (fun c' h' tk' m' news' f n a b c d => ⟨c', h', tk', m', news', rfl, f, n, a, b, c, d⟩)
      hp hi hI₁ (fun b hb hbs p hp e => hofp b hb hbs (e ▸ (own_mem hp).1)) F2 fun p hp => (List.mem_append.mp hp).elim (N' p) (own_news hLf p)) (fun f s₃ q => ?_) fun _ _ y => y)
    have fin : FPost h₀ L s Inv led loc Q i (ownOf h₀ h' fp) .next s₃ → ∃ m, m < j ∧ ∃ (i : Nat) (c : σ) (h : Heap) (tk : Nat) (m' : Str → Option Value), i + m = n ∧ s₃ = { s with heap := h, toks := tk } ∧ St i h ∧ Fr h₀ L h m' ∧ News h₀ L h (led c) ∧ HasD m' (loc c) ∧ Inv i c := by
      rintro ⟨c', h3, tk3, m', news', rfl, F3, N3, hn3, ho3, hm3, hI3⟩
      exact ⟨j - 1, by omega, i + 1, c', h3, tk3, m', by omega, rfl, W.frame _ _ _ hs' (own_keeps F' F3 N3 ho3), F3, fun p hp => N3 p (hn3 p hp), hm3, hI3⟩
    cases f with
    | ret v => exact q
    | brk => exact q
    | next => exact fin q
    | cont => exact fin q
  · obtain rfl : i = n := by omega
    refine W.done _ _ _ hs fun h' tk' hk' => wpAny_passesOwn hE ?_
    have hnL : L ∉ wr := fun e => hLf (W.sub L e)
    refine done c m T h' tk' hI₁ ?_ fun p hp => ⟨hk' _ _ (hnx p hp) (N₁ p hp).1, (N₁ p hp).2⟩
    exact Fr.ov ⟨F₁.ns.at fun o e => hk' L o hnL e, fun b o e => hk' b o (fun q => by rw [hwr b q] at e; cases e) (F₁.keep b o e), F₁.above⟩ hT
theorem forStmtC {M : Model} {env : Env} {target iter : Expr} {pos : Pos} {Q : Flow → Shared → Prop} (hs : ∀ x, foldedSetIterable iter env x = pure x)
    (h : wpAny M A (eval iter env) (fun x s₁ => wpAny M A (pyIter x) (fun it s₂ => codeC M A (.forLoop target it body [] env) Q s₂) (fun _ _ => False) s₁) (fun _ _ => False) s) :
    wpC M A (exec (.For target iter body [] pos) env) Q s := by
  rw [exec_For]
  exact wpC_then (wpAny_standAt (wpC_then (wpAny_mono h (fun x s₁ h₁ => wpC_then (wpAny_of_eq (hs x) (wpC_then (wpAny_standAt (wpC_then (wpAny_holding (wpAny_mono h₁ (fun it s₂ h₂ => wpC_runOwn h₂ rfl) fun _ _ x => x))))))) fun _ _ x => x)))
theorem fresh_up {m₀ : Str → Option Value} (F : Fr h₀ L s.heap m₀) (k : Nat) : h₀.get? (s.heap.objs.size + k) = none := by
  cases q : h₀.get? (s.heap.objs.size + k) with
  | none => rfl
  | some o => exact absurd (Heap.lt_size (F.keep _ _ q)) (Nat.not_lt.mpr (Nat.le_add_right _ k))
theorem ne_up {b : Addr} (h : b < s.heap.objs.size) (k : Nat) : b ≠ s.heap.objs.size + k := Nat.ne_of_lt (Nat.lt_of_lt_of_le h (Nat.le_add_right _ k))
theorem enum_src {E : Value → Shared → Prop} {K : Value → Shared → Prop} {l : Addr} {vs : List Value} {m₀ : Str → Option Value} {news : List (Addr × Obj)} (adr : List Addr) (hh : A.handled = none) (hl : s.heap.IsList l vs.toArray) (hlL : l ≠ L)
    (F : Fr h₀ L s.heap m₀) (N : News h₀ L s.heap news) (hadr : ∀ b ∈ adr, ∃ p ∈ news, p.1 = b)
    (h : ∀ I h', Fr h₀ L h' m₀ → News h₀ L h' news → SrcAt prog w A h₀ L [l] adr vs.length (fun i v1 v2 => (∃ t, v1 = .int i t) ∧ vs[i]? = some v2) I h' → K (.ref I) { s with heap := h' }) :
    wpAny (model prog w) A (call (.type "enumerate") [.ref l]) (fun v s₁ => wpAny (model prog w) A (pyIter v) K E s₁) E s := by
  obtain ⟨ol, hol, _⟩ := id hl
  have hlt : l < s.heap.objs.size := Heap.lt_size hol
  have hLlt : L < s.heap.objs.size := F.ns.lt
  have hadr0 : ∀ b ∈ adr, b < s.heap.objs.size := fun b hb => by
    obtain ⟨p, hp, rfl⟩ := hadr b hb
    exact Heap.lt_size (N p hp).1
  refine call_enumerate_list hl fun h' he hit hsz hk' => ?_
  have W := WalksT.enumerate (prog := prog) (w := w) hh (s.heap.objs.size + 1) s.heap.objs.size l (Nat.succ_ne_self _) (Nat.ne_of_lt (Nat.lt_succ_of_lt hlt)) (Nat.ne_of_lt hlt) vs.toArray
  have hst : (∃ old, IsEnum h' (s.heap.objs.size + 1) s.heap.objs.size ((0 : Nat) : Int) old) ∧ h'.IsListIter s.heap.objs.size l 0 ∧ h'.IsList l vs.toArray := ⟨⟨_, he⟩, hit, hl.at fun o e => hk' _ _ e⟩
  rw [List.size_toArray] at W
  refine W.self 0 _ _ _ hst (h _ h' (fr_stays F hk') (news_stays N hk') ⟨_, _, _, _, _, W, hst, ?_, ?_, ?_, ?_, ?_⟩)
  · rintro i vals ⟨t, x, hx, rfl⟩; exact ⟨_, _, rfl, ⟨t, rfl⟩, by simpa using hx⟩
  · intro e
    simp only [List.mem_cons, List.not_mem_nil, or_false] at e
    rcases e with e | e | e
    · exact ne_up hLlt 1 e
    · exact ne_up hLlt 0 e
    · exact hlL e.symm
  · intro b hb
    simp only [List.mem_cons, List.not_mem_nil, or_false] at hb
    rcases hb with rfl | rfl
    · exact fresh_up F 1
    · exact fresh_up F 0
  · intro b hb e
    simp only [List.mem_cons, List.not_mem_nil, or_false] at e
    rcases e with e | e
    · exact ne_up (hadr0 b hb) 1 e
    · exact ne_up (hadr0 b hb) 0 e
  · intro b hb hbs e
    simp only [List.mem_cons, List.not_mem_nil, or_false] at e hbs
    rcases e with e | e | e
    · exact ne_up (hadr0 b hb) 1 e
    · exact ne_up (hadr0 b hb) 0 e
    · exact hbs e
theorem zip_src {E : Value → Shared → Prop} {K : Value → Shared → Prop} {l1 l2 : Addr} {xs ys : List Value} {m₀ : Str → Option Value} {news : List (Addr × Obj)} (adr : List Addr) (hh : A.handled = none) (hl1 : s.heap.IsList l1 xs.toArray) (hl2 : s.heap.IsList l2 ys.toArray) (hlL : l1 ≠ L ∧ l2 ≠ L)
    (F : Fr h₀ L s.heap m₀) (N : News h₀ L s.heap news) (hadr : ∀ b ∈ adr, ∃ p ∈ news, p.1 = b)
    (h : ∀ I h', Fr h₀ L h' m₀ → News h₀ L h' news → SrcAt prog w A h₀ L [l1, l2] adr (min xs.length ys.length) (fun i v1 v2 => xs[i]? = some v1 ∧ ys[i]? = some v2) I h' → K (.ref I) { s with heap := h' }) :
    wpAny (model prog w) A (call (.type "zip") [.ref l1, .ref l2]) (fun v s₁ => wpAny (model prog w) A (pyIter v) K E s₁) E s := by
  obtain ⟨ol1, hol1, _⟩ := id hl1
  obtain ⟨ol2, hol2, _⟩ := id hl2
  have hlt1 : l1 < s.heap.objs.size := Heap.lt_size hol1
  have hlt2 : l2 < s.heap.objs.size := Heap.lt_size hol2
  have hLlt : L < s.heap.objs.size := F.ns.lt
  have hadr0 : ∀ b ∈ adr, b < s.heap.objs.size := fun b hb => by
    obtain ⟨p, hp, rfl⟩ := hadr b hb
    exact Heap.lt_size (N p hp).1
  refine call_zip_2 hl1 hl2 fun h' hz hTI hTO hit1 hit2 hsz hk => ?_
  have W := WalksT.zip2 (prog := prog) (w := w) hh _ _ _ _ _ l1 l2 (zipApart_new hlt1 hlt2) xs.toArray ys.toArray
  rw [List.size_toArray, List.size_toArray] at W
  have hst := (⟨hz, hTI, ⟨_, _, hTO⟩, hit1, hit2, hl1.at fun o e => hk l1 o e, hl2.at fun o e => hk l2 o e⟩ : _ ∧ _ ∧ (∃ a b, _) ∧ _ ∧ _ ∧ _ ∧ _)
  refine W.self 0 _ _ _ hst (h _ h' (fr_stays F hk) (news_stays N hk) ⟨_, _, _, _, _, W, hst, ?_, ?_, ?_, ?_, ?_⟩)
  · rintro i vals ⟨x, y, hx, hy, rfl⟩; exact ⟨_, _, rfl, by simpa using hx, by simpa using hy⟩
  · intro e
    simp only [List.mem_cons, List.not_mem_nil, or_false] at e
    rcases e with e | e | e | e | e | e | e <;> first | exact ne_up hLlt _ e | exact ne_up hLlt 0 e | exact hlL.1 e.symm | exact hlL.2 e.symm
  · intro b hb
    simp only [List.mem_cons, List.not_mem_nil, or_false] at hb
    rcases hb with rfl | rfl | rfl | rfl <;> first | exact fresh_up F _ | exact fresh_up F 0
  · intro b hb e
    simp only [List.mem_cons, List.not_mem_nil, or_false] at e
    rcases e with e | e | e | e <;> first | exact ne_up (hadr0 b hb) _ e | exact ne_up (hadr0 b hb) 0 e
  · intro b hb hbs e
    simp only [List.mem_cons, List.not_mem_nil, or_false, not_or] at e hbs
    rcases e with e | e | e | e | e | e | e <;> first | exact ne_up (hadr0 b hb) _ e | exact ne_up (hadr0 b hb) 0 e | exact hbs.1 e | exact hbs.2 e
theorem adr_in {σ : Type} {led : σ → List (Addr × Obj)} {adr : List Addr} {news : List (Addr × Obj)} {c₀ : σ} (hadr : ∀ c, (led c).map (·.1) = adr) (hn : ∀ p ∈ led c₀, p ∈ news) : ∀ b ∈ adr, ∃ p ∈ news, p.1 = b := fun b hb => by
  rw [← hadr c₀] at hb
  obtain ⟨p, hp, rfl⟩ := List.mem_map.mp hb
  exact ⟨p, hn p hp, rfl⟩
/-- for x, y in enumerate(l): -/
theorem for_enumC {σ : Type} {R : Flow → Shared → Prop} {x y : Str} {px py tp : Pos} {k : Nat} {l : Addr} {vs : List Value} {m₀ : Str → Option Value} {news : List (Addr × Obj)} (hh : A.handled = none) (hl : s.heap.IsList l vs.toArray) (hlL : l ≠ L)
    (F : Fr h₀ L s.heap m₀) (N : News h₀ L s.heap news) (hxy : y ≠ x)
    (Inv : Nat → σ → Prop) (led : σ → List (Addr × Obj)) (loc : σ → List (Str × Dv)) (adr : List Addr) (hadr : ∀ c, (led c).map (·.1) = adr) (c₀ : σ)
    (hm : HasD m₀ (loc c₀)) (hn : ∀ p ∈ led c₀, p ∈ news) (hI : Inv 0 c₀)
    (turn : ∀ (i : Nat) (v : Value) (t : Tok) (c : σ) (u : Str → Option Value) (T : Nat → Tok) (h : Heap) (tk : Nat) (own : List (Addr × Obj)), vs[i]? = some v → Inv i c → (∀ b ∈ adr, b ≠ l → ∀ p ∈ own, p.1 ≠ b) →
      Fr h₀ L h (ov ((y, v) :: (x, .int i t) :: vals (loc c) T) u) → News h₀ L h (led c ++ own) →
      wpC (model prog w) A (execs body (envOf name scope L a cd)) (FPost h₀ L s Inv led loc R i own) { s with heap := h, toks := tk })
    (done : ∀ (c : σ) (u : Str → Option Value) (T : Nat → Tok) (h : Heap) (tk : Nat), Inv vs.length c → Fr h₀ L h (ov (vals (loc c) T) u) → News h₀ L h (led c) → R .next { s with heap := h, toks := tk })
    (hk : scope.kind = .function) (hx : (envOf name scope L a cd).kindOf x = some .local) (hy : (envOf name scope L a cd).kindOf y = some .local) :
    wpAny (model prog w) A (call (.type "enumerate") [.ref l]) (fun v s₁ => wpAny (model prog w) A (pyIter v) (fun it s₂ => codeC (model prog w) A (.forLoop (.Tuple [.Name x px, .Name y py] k tp) it body [] (envOf name scope L a cd)) R s₂) (fun _ _ => False) s₁) (fun _ _ => False) s :=
  enum_src adr hh hl hlL F N (adr_in hadr hn) fun I h' F' N' S => forT_C (s := { s with heap := h' }) hh F' N' hxy Inv led loc adr hadr S c₀ hm hn hI
    (fun i v1 v2 c u T h tk own hp _ hI' hown F'' N'' => by
      obtain ⟨⟨t, rfl⟩, hv⟩ := hp
      exact turn i v2 t c u T h tk own hv hI' (fun b hb hbl => hown b hb (by simpa using hbl)) F'' N'') (fun c u T h tk hI' F'' N'' => done c u T h tk hI' F'' N'') hk hx hy
/-- the same, under wpAny -/
theorem for_enumE {σ : Type} {Q : Flow → Shared → Prop} {E : Value → Shared → Prop} {x y : Str} {px py tp : Pos} {k : Nat} {orelse : List Stmt} {l : Addr} {vs : List Value} {m₀ : Str → Option Value} {news : List (Addr × Obj)} (hh : A.handled = none) (hl : s.heap.IsList l vs.toArray) (hlL : l ≠ L)
    (F : Fr h₀ L s.heap m₀) (N : News h₀ L s.heap news) (hxy : y ≠ x)
    (Inv : Nat → σ → Prop) (led : σ → List (Addr × Obj)) (loc : σ → List (Str × Dv)) (adr : List Addr) (hadr : ∀ c, (led c).map (·.1) = adr) (c₀ : σ)
    (hm : HasD m₀ (loc c₀)) (hn : ∀ p ∈ led c₀, p ∈ news) (hI : Inv 0 c₀)
    (turn : ∀ (i : Nat) (v : Value) (t : Tok) (c : σ) (u : Str → Option Value) (T : Nat → Tok) (h : Heap) (tk : Nat) (own : List (Addr × Obj)) (Z : Flow → Shared → Prop), (∀ v s₃, Q (.ret v) s₃ → Z (.ret v) s₃) →
      (∀ c' h' tk' m' news', Fr h₀ L h' m' → News h₀ L h' news' → (∀ p ∈ led c', p ∈ news') → (∀ p ∈ own, p ∈ news') → HasD m' (loc c') → Inv (i + 1) c' → Z .next { s with heap := h', toks := tk' }) →
      vs[i]? = some v → Inv i c → (∀ b ∈ adr, b ≠ l → ∀ p ∈ own, p.1 ≠ b) →
      Fr h₀ L h (ov ((y, v) :: (x, .int i t) :: vals (loc c) T) u) → News h₀ L h (led c ++ own) →
      wpAny (model prog w) A (execs body (envOf name scope L a cd)) Z E { s with heap := h, toks := tk })
    (done : ∀ (c : σ) (u : Str → Option Value) (T : Nat → Tok) (h : Heap) (tk : Nat), Inv vs.length c → Fr h₀ L h (ov (vals (loc c) T) u) → News h₀ L h (led c) → wpAny (model prog w) A (execs orelse (envOf name scope L a cd)) Q E { s with heap := h, toks := tk })
    (hE : PassesOwn (model prog w) A (envOf name scope L a cd) E)
    (hk : scope.kind = .function) (hx : (envOf name scope L a cd).kindOf x = some .local) (hy : (envOf name scope L a cd).kindOf y = some .local) :
    wpAny (model prog w) A (call (.type "enumerate") [.ref l]) (fun v s₁ => wpAny (model prog w) A (pyIter v) (fun it s₂ => codeAny (model prog w) A (.forLoop (.Tuple [.Name x px, .Name y py] k tp) it body orelse (envOf name scope L a cd)) (fun r s' => match r with | .ok f => Q f s' | .error e => cameBackBy (model prog w) A (envOf name scope L a cd) E e s') s₂) E s₁) E s :=
  enum_src adr hh hl hlL F N (adr_in hadr hn) fun I h' F' N' S => forT_E (s := { s with heap := h' }) hh F' N' hxy Inv led loc adr hadr S c₀ hm hn hI
    (fun i v1 v2 c u T h tk own Z z1 z2 hp _ hI' hown F'' N'' => by
      obtain ⟨⟨t, rfl⟩, hv⟩ := hp
      exact turn i v2 t c u T h tk own Z z1 z2 hv hI' (fun b hb hbl => hown b hb (by simpa using hbl)) F'' N'') (fun c u T h tk hI' F'' N'' => done c u T h tk hI' F'' N'') hE hk hx hy
end

structure GiS where
  bias : Int
  acc : List UInt8
structure GiI (bl : Int) (ns : List Int) (i : Nat) (c : GiS) : Prop where
  val : c.acc ++ encAll lo bl i c.bias (ns.drop i) = encAll lo bl 0 72 ns
  b0 : 0 ≤ c.bias
  b1 : c.bias ≤ 72
theorem gi_len {bl : Int} {ns : List Int} {i : Nat} {c : GiS} (I : GiI bl ns i c) (hl : ns.length ≤ 8) : c.acc.length ≤ 64 := by
  have h1 := encAll_len lo bl ns 0 72
  rw [← I.val, List.length_append] at h1
  omega
theorem gi_next {bl : Int} {ns : List Int} {i : Nat} {c : GiS} {N : Int} (I : GiI bl ns i c) (hn : ns[i]? = some N) (hN : 0 ≤ N ∧ N < 2000) (hb : 0 ≤ bl) :
    GiI bl ns (i + 1) ⟨adaptv N (i == 0) (bl + i + 1), c.acc ++ (encD c.bias 8 0 N).map lo⟩ := by
  have e : ns.drop i = N :: ns.drop (i + 1) := by
    obtain ⟨h, e⟩ := List.getElem?_eq_some_iff.mp hn
    rw [List.drop_eq_getElem_cons h, e]
  have hv := I.val
  rw [e, encAll, ← List.append_assoc] at hv
  have ab := adaptv_bounds (first := i == 0) (nc := bl + i + 1) hN (by omega)
  exact ⟨hv, ab.1, ab.2⟩
theorem geni_tells (w : World) (mean : ExcName → Option Value) (mg mb : Str → Option Value) (bl : Int) (ns : List Int) (l : Addr) (t1 : Tok) (hns : ∀ n ∈ ns, 0 ≤ n ∧ n < 2000) (hl : ns.length ≤ 8) (hb : 0 ≤ bl ∧ bl ≤ 8) :
    TellsC w mean mg mb 3 42 [.int bl t1, .ref l] (fun h => IntList h l ns) (fun v h h' => ∃ t, v = .bytes (encAll lo bl 0 72 ns).toArray t) := by
  unfold TellsC
  k_fill
  intro dp un gd outer base s Q B X T hpre hroom hret
  obtain ⟨lv, hll, hli⟩ := hpre
  refine enterC [("baselen", .int bl t1), ("deltas", .ref l)] (by assumption) (by assumption) (by assumption) (Room.here (by assumption)) (by k_is) (by k_is) (by exact rfl) (by exact rfl) (by exact rfl) ?_ (by decide) (by exact rfl) (by exact rfl) (by exact rfl)
  intro L h₁ tk u F N
  refine execsC_cons (new_ba F N (by assumption) (by assumption) (by k_is) (by kernel_rfl) (by exact rfl) (by exact rfl) (by exact rfl) (by exact rfl) ?_)
  intro D h2 tk2 F2 N2 _
  refine then_next (execsC_any ?_)
  k_extra "go"
  refine then_next (execsC_cons (forStmtC (by intro _; rfl) ?_))
  k_extra "go"
  have hDl : D ≠ l := fun e => by
    obtain ⟨o, ho, _⟩ := hll
    rw [← e, N'.fresh (.head _)] at ho; cases ho
  refine for_enumC (σ := GiS) (vs := lv) rfl (hll.at fun o e => F'.keep _ _ e) (base_ne F' hll) F' N' (by decide) (GiI bl ns) (fun c => [(D, baObj c.acc)]) (fun c => [("baselen", .i bl), ("deltas", .r l), ("result", .r D), ("bias", .i c.bias)]) [D] (fun _ => rfl) ⟨72, []⟩ (by k_extra "has") (fun p hp => hp) ⟨by simp, by decide, by decide⟩ ?_ ?_ rfl rfl rfl
  · intro i v t c u TT h tk own hv hI hown F NN
    obtain ⟨n, t', hn, rfl⟩ := ints_at hli hv
    have hN := hns n (List.mem_of_getElem? hn)
    clear F' N'
    dsimp only [vals, Dv.v] at F
    have hU := hown D (.head _) hDl
    refine execsC_cons (assign_callC F (by assumption) (by assumption) (by k_is) (by k_is) (by exact rfl) (by exact rfl) (by exact rfl) (by exact rfl) (AEs.cons (AE.nm rfl rfl rfl) (AEs.cons (AE.nm rfl rfl rfl) AEs.nil)) ?_)
    intro T9 k9
    dsimp only [toked]
    refine TellsC.use (ggi_tells _ _ _ _ n c.bias _ _ hN ⟨hI.b0, hI.b1⟩) (by assumption) (by k_asm) (by assumption) (by k_asm) (by assumption) (by exact rfl) trivial (Room.down (by assumption) rfl) ?_
    rintro _ h3 tk3 F3 N3 ⟨t9, rfl⟩ _
    refine st_ov F3 N3 (fun h4 tk4 F4 N4 => then_next ?_) (by exact rfl) (by exact rfl)
    refine execsC_cons (extend_C F4 N4 (.head hU) (by exact rfl) (by exact rfl) ?_ ?_ (by exact rfl) (by exact rfl) (by exact rfl) (by exact rfl) (by exact rfl) (by exact rfl) (by exact rfl) (by exact rfl) (by exact rfl))
    · have h1 := gi_len hI hl
      have h2 := encD_len c.bias 8 0 n
      rw [List.length_map]; omega
    intro h5 tk5 F5 N5
    refine then_next (execsC_any ?_)
    clear F F3 F4 NN N3 N4
    have hi : i < ns.length := (List.getElem?_eq_some_iff.mp hn).1
    k_extra "go"
    refine then_next (execsC_nil ?_)
    have g := gi_next hI hn hN hb.1
    rw [show ((i : Int) == 0) = (i == 0) by rw [Bool.eq_iff_iff, beq_iff_eq, beq_iff_eq]; omega] at F'
    exact fpost _ F' N' sub1 subT (by k_extra "has") g
  · intro c u TT h tk hI F NN
    clear F' N'
    dsimp only [vals, Dv.v] at F
    refine then_next (execsC_any ?_)
    k_extra "go"
    refine call_bytes_ba (NN.get (.head _)) (by have := gi_len hI hl; omega) fun t k => then_ret ?_
    show Q _ { s with heap := h, toks := k }
    refine ret_bytes hret F ?_
    have := hI.val
    rw [hli.length, List.drop_length] at this
    simpa [encAll] using this

/-! calls within a clause: an exception is in hand -/
def CtxOk (hd : Option Value) (h : Heap) : Prop := hd = none ∨ ∃ e, hd = some (.ref e) ∧ ∃ oc vc, h.get? e = some oc ∧ oc.data = .fields vc ∧ vc[2]? = some .none
theorem CtxOk.keeps {hd : Option Value} {h h' : Heap} (c : CtxOk hd h) (k : ∀ b o, h.get? b = some o → h'.get? b = some o) : CtxOk hd h' := by
  rcases c with c | ⟨e, c, oc, vc, h1, h2, h3⟩
  · exact .inl c
  · exact .inr ⟨e, c, oc, vc, k _ _ h1, h2, h3⟩
abbrev ArH (hd : Option Value) (dp un : Nat) (gd : Option (List Code)) (outer : List Env) : Around := { handled := hd, depth := dp, frames := some outer, guards := gd, units := un }
def TellsH (w : World) (mean : ExcName → Option Value) (mg mb : Str → Option Value) (lv : Nat) (f : Addr) (vs : List Value) (pre : Heap → Prop) (R : Value → Heap → Heap → Prop) : Prop :=
  ∀ (hand : Option Value) (dp un : Nat) (gd : Option (List Code)) (outer : List Env) (s : Shared) (Q E : Value → Shared → Prop),
    (hd.heap_39 w.params).In s.heap → TopF mean mg mb s.heap → CtxOk hand s.heap → pre s.heap → Room dp un lv →
    (∀ v h' tk', s.heap.StaysIn h' → R v s.heap h' → Q v { s with heap := h', toks := tk' }) →
    wpAny (model PySem.Challenge.rw_nb0162_01.row.prog w) (ArH hand dp un gd outer) (call (.ref f) vs) Q E s
theorem TellsH.plain {w : World} {mean : ExcName → Option Value} {mg mb : Str → Option Value} {lv : Nat} {f : Addr} {vs : List Value} {pre : Heap → Prop} {R : Value → Heap → Heap → Prop} (C : TellsH w mean mg mb lv f vs pre R) : Tells w mean mg mb lv f vs pre R :=
  fun dp un gd outer base s Q E _ X T hp hr k => C none dp un gd outer s Q E X T (.inl rfl) hp hr k
theorem enterH {w : World} {mean : ExcName → Option Value} {mg mb : Str → Option Value} {hand : Option Value} {dp un : Nat} {gd : Option (List Code)} {outer : List Env} {s : Shared} {Q E : Value → Shared → Prop}
    {name qual : Str} {params : Arguments} {body : List Stmt} {scope : Scope} {dV kV doc pm cdv ct oc : Value} {an od : Option Addr} {osl : Array (Option Value)} {f : Addr} {vs : List Value} (binds : List (Str × Value))
    (X : (hd.heap_39 w.params).In s.heap) (T : TopF mean mg mb s.heap) (hroom : dp < recursionLimit)
    (ho : (hd.heap_39 w.params).lookup f = some ⟨oc, od, .func (fnOf name qual params body scope dV kV doc pm an cdv ct), osl⟩) (hcd : codeIn (hd.heap_39 w.params) cdv qual = true)
    (hbind : bindArgs (fnOf name qual params body scope dV kV doc pm an cdv ct) ⟨vs, []⟩ = pure binds) (hloc : (binds.all fun x => decide (scope.names.lookup x.1 = some .local)) = true)
    (hbl : apartB binds = true)
    (h : ∀ L h₁ tk u, Fr s.heap L h₁ (ov binds u) → News s.heap L h₁ [] →
      wpAny (model PySem.Challenge.rw_nb0162_01.row.prog w) (ArH hand (dp + 1) (un + 3) gd (envOf qual scope L f cdv :: outer)) (execs body (envOf qual scope L f cdv))
        (fun fl s' => Q (match fl with | .ret v => v | _ => .none) s') (fun _ _ => False)
        { s with heap := h₁, toks := tk })
    (hcell : ∀ x ∈ scope.names, x.2 ≠ .cell) (hco : scope.isCoroutine = false) (hgen : scope.isGenerator = false) (hk : scope.kind = .function) :
    wpAny (model PySem.Challenge.rw_nb0162_01.row.prog w) (ArH hand dp un gd outer) (call (.ref f) vs) Q E s := by
  refine wpAny_call (codeAny_call_def (fd := fnOf name qual params body scope dV kV doc pm an cdv ct) (body := body) (binds := binds) hroom (X _ _ ho) rfl T.nolimit (codeRec_of X hcd) rfl (BindsTo.of_eq hbind) hcell (locs hloc) (fun h₁ hns hk₁ => ?_) hco hgen hk)
  exact wpAny_mono (h s.heap.objs.size h₁ _ _ (Fr.ov ⟨hns, hk₁, Nat.le_refl _⟩ (binds_has (apartB_nodup hbl))) News.nil) (fun _ _ x => x) (fun _ _ x => x.elim)
section
variable {prog : Program} {w : World} {A : Around} {E : Value → Shared → Prop} {s : Shared}
theorem raise_stop {α : Type} {Q : α → Shared → Prop} {e : Addr} {om : List Value} {t : Value} (hc : CtxOk A.handled s.heap) (hnc : A.handled ≠ some (.ref e)) (he : s.heap.get? e = some { cls := .type "StopIteration", data := .fields (#[t, .none, .none, .none, .bool false, .none] ++ om.toArray) })
    (h : ∀ h', (∀ b o, b ≠ e → s.heap.get? b = some o → h'.get? b = some o) → (∃ oe, h'.get? e = some oe ∧ oe.cls = .type "StopIteration") → E (.ref e) { s with heap := h' }) : wpAny (model prog w) A (raiseNew (.ref e)) Q E s := by
  unfold raiseNew
  refine wpAny_bind (wpAny_handled ?_)
  rcases hc with hc | ⟨c, hc, oc, vc, hoc, hcd, h2⟩
  · rw [hc]
    exact wpAny_bind (wpAny_pure (wpAny_throw (h _ (fun _ _ _ q => q) ⟨_, he, rfl⟩)))
  · rw [hc]
    dsimp only
    have hce : c ≠ e := fun q => hnc (by rw [hc, q])
    rw [if_pos (show (Value.ref c != Value.ref e) = true by simp [hce])]
    refine wpAny_bind (wpAny_holding (wpAny_runValue (codeAny_builtin unchain_entry ?_)))
    unfold Builtin.«proto.unchain»
    refine wpAny_bind (wpAny_field hoc hcd h2 (wpAny_pure ?_))
    show wpAny _ _ (setField (.ref e) 2 (.ref c) >>= _) _ _ _
    refine wpAny_bind (wpAny_setField he rfl (by simp) (wpAny_throw (h _ (fun b o hb q => ?_) ⟨_, Heap.get?_update_self _ he rfl, rfl⟩)))
    rw [Heap.get?_update_other _ _ (Ne.symm hb)]
    exact q
theorem list_endH {it l : Addr} {i : Nat} {items : Array Value} {Q : Option Value → Shared → Prop} (hc : CtxOk A.handled s.heap) (hct : A.handled ≠ some (.ref it))
    (hit : s.heap.IsListIter it l i) (hl : s.heap.IsList l items) (hx : items[i]? = none)
    (hQ : ∀ h', Heap.ExtBut it s.heap h' → Q none { s with heap := h' }) : wpAny (model prog w) A (pyNext (.ref it)) Q E s := by
  obtain ⟨o, ho, hcc, hd⟩ := id hit
  obtain ⟨ol, hol, _, nl, hdl⟩ := hl
  unfold pyNext
  refine wpAny_bind (wpAny_attempt (wpAny_callSpecial?_slot (name := Str.ofString "__next__") hit.typeIs slot_listiter_next
    (wpAny_call_entry slot_listiter_next hit.typeIs entry_listiter_next ?_ (args_listiter_next _))))
  show wpAny _ _ (field (.ref it) 0 >>= _) _ _ s
  refine wpAny_bind (wpAny_field ho hd (x := .ref l) rfl ?_)
  show wpAny _ _ (if (Value.ref l == Value.none) = true then _ else _) _ _ s
  rw [if_neg (show ¬ ((Value.ref l == Value.none) = true) from Bool.false_ne_true)]
  show wpAny _ _ (field (.ref it) 1 >>= _) _ _ s
  refine wpAny_bind (wpAny_field ho hd (x := .int i 0) rfl ?_)
  show wpAny _ _ (seqItems? (.ref l) >>= _) _ _ s
  refine wpAny_bind (wpAny_seqItems hol hdl ?_)
  simp only [Int.toNat_natCast, hx]
  refine wpAny_bind (wpAny_rule (wpAny_bind (wpAny_setField ho hd (by simp) ?_)))
  show wpAny _ _ (newExc (.type "StopIteration") [] >>= _) _ _ _
  refine wpAny_bind ?_
  simp only [newExc, newTuple]
  refine wpAny_bind (wpAny_newObj_type ?_ (by size_fits))
  refine wpAny_bind (m := firstArgMember _ _) (wpAny_of_eq (a := Value.none) (by first | rfl | (simp only [firstArgMember]; rfl)) ?_)
  refine wpAny_newObj_type ?_ (by size_fits)
  obtain ⟨om, hom⟩ : ∃ om : List Value, ownMembersOf (.type "StopIteration") [] = om.toArray := ⟨_, rfl⟩
  rw [hom]
  show wpAny _ _ (raiseNew (.ref ((s.heap.update it (Obj.mapFields fun x => x.setIfInBounds 0 Value.none)).push { cls := Value.type "tuple", data := Data.seq #[] }).objs.size)) _ _
    { s with heap := ((s.heap.update it (Obj.mapFields fun x => x.setIfInBounds 0 Value.none)).push { cls := Value.type "tuple", data := Data.seq #[] }).push { cls := .type "StopIteration", data := .fields (#[.ref (s.heap.update it (Obj.mapFields fun x => x.setIfInBounds 0 Value.none)).objs.size, .none, .none, .none, .bool false, .none] ++ om.toArray) } }
  have hext : Heap.ExtBut it s.heap (((s.heap.update it (Obj.mapFields fun x => x.setIfInBounds 0 Value.none)).push { cls := Value.type "tuple", data := Data.seq #[] }).push { cls := .type "StopIteration", data := .fields (#[.ref (s.heap.update it (Obj.mapFields fun x => x.setIfInBounds 0 Value.none)).objs.size, .none, .none, .none, .bool false, .none] ++ om.toArray) }) := ((Heap.SameBut.update ..).extBut.push _).push _
  have hsz : s.heap.objs.size ≤ ((s.heap.update it (Obj.mapFields fun x => x.setIfInBounds 0 Value.none)).push { cls := Value.type "tuple", data := Data.seq #[] }).objs.size := by
    rw [Heap.size_push, Heap.size_after_update]; exact Nat.le_succ _
  refine raise_stop ?_ ?_ (Heap.get?_push_size _ rfl) fun h' k ⟨oe, he, hcl⟩ => wpAny_bind (wpAny_isInstance (T := "StopIteration") (b := true) ⟨oe, he, hcl⟩ isSubtype_stop (wpAny_pure (hQ _ fun b o hb q => k b o ?_ (hext b o hb q))))
  · rcases hc with hc | ⟨c, hc, oc, vc, hoc, h1, h2⟩
    · exact .inl hc
    · exact .inr ⟨c, hc, oc, vc, hext c oc (fun q => hct (by rw [hc, q])) hoc, h1, h2⟩
  · intro q
    rcases hc with hc | ⟨c, hc, oc, vc, hoc, h1, h2⟩
    · rw [show A.in1.handled = none from hc] at q; cases q
    · rw [show A.in1.handled = some (.ref c) from hc] at q
      cases q
      exact absurd (Heap.lt_size hoc) (Nat.not_lt.mpr hsz)
  · exact Nat.ne_of_lt (Nat.lt_of_lt_of_le (Heap.lt_size q) hsz)
/-- for x in l: a list of the base, nothing written -/
theorem for_listH {σ : Type} {Q : Flow → Shared → Prop} {h₀ : Heap} {name : Str} {scope : Scope} {L a l : Addr} {cd : Value} {x : Str} {px : Pos} {body : List Stmt} {vs : List Value} {m₀ : Str → Option Value}
    (hc : CtxOk A.handled h₀) (hl : h₀.IsList l vs.toArray) (F : Fr h₀ L s.heap m₀)
    (Inv : Nat → σ → Prop) (loc : σ → List (Str × Dv)) (c₀ : σ) (hm : HasD m₀ (loc c₀)) (hI : Inv 0 c₀)
    (turn : ∀ (i : Nat) (v : Value) (c : σ) (u : Str → Option Value) (T : Nat → Tok) (h : Heap) (tk : Nat) (own : List (Addr × Obj)) (Z : Flow → Shared → Prop), (∀ v s₃, Q (.ret v) s₃ → Z (.ret v) s₃) →
      (∀ c' h' tk' m' news', Fr h₀ L h' m' → News h₀ L h' news' → (∀ p ∈ own, p ∈ news') → HasD m' (loc c') → Inv (i + 1) c' → Z .next { s with heap := h', toks := tk' }) →
      vs[i]? = some v → Inv i c → Fr h₀ L h (ov ((x, v) :: vals (loc c) T) u) → News h₀ L h own →
      wpAny (model prog w) A (execs body (envOf name scope L a cd)) Z E { s with heap := h, toks := tk })
    (done : ∀ (c : σ) (u : Str → Option Value) (T : Nat → Tok) (h : Heap) (tk : Nat), Inv vs.length c → Fr h₀ L h (ov (vals (loc c) T) u) → Q .next { s with heap := h, toks := tk })
    (hE : PassesOwn (model prog w) A (envOf name scope L a cd) E)
    (hk : scope.kind = .function) (hx : (envOf name scope L a cd).kindOf x = some .local) :
    wpAny (model prog w) A (pyIter (.ref l)) (fun it s₂ => codeAny (model prog w) A (.forLoop (.Name x px) it body [] (envOf name scope L a cd)) (fun r s' => match r with | .ok f => Q f s' | .error e => cameBackBy (model prog w) A (envOf name scope L a cd) E e s') s₂) E s := by
  refine wpAny_pyIter_list (hl.at fun o e => F.keep _ _ e) ?_
  have hnew : h₀.get? s.heap.objs.size = none := next_is_new F
  have hLI : L ≠ s.heap.objs.size := loc_ne_size F
  have hct : A.handled ≠ some (.ref s.heap.objs.size) := fun q => by
    rcases hc with hc | ⟨c, hc, oc, vc, hoc, _⟩
    · rw [hc] at q; cases q
    · rw [hc] at q; cases q; rw [hnew] at hoc; cases hoc
  refine codeAny_forLoop_any (fun j s' => ∃ (i : Nat) (c : σ) (h : Heap) (tk : Nat) (m : Str → Option Value), i + j = vs.length ∧ s' = { s with heap := h, toks := tk } ∧ h.IsListIter s.heap.objs.size l i ∧ Fr h₀ L h m ∧ HasD m (loc c) ∧ Inv i c) ?_ vs.length
    ⟨0, c₀, _, s.toks, m₀, Nat.zero_add _, rfl, ⟨_, Heap.get?_push_size _ rfl, rfl, rfl⟩, F.push _, hm, hI⟩
  rintro j s' ⟨i, c, h, tk, m, hij, rfl, hit, F₁, hm₁, hI₁⟩
  obtain ⟨T, hT⟩ := hm₁.vals
  by_cases hi : i < vs.length
  · refine wpAny_pyNext_list_item hit (hl.at fun o e => F₁.keep _ _ e) (x := vs[i]) (by simp [hi]) fun h' hit' hs' => ?_
    have F2 : Fr h₀ L h' m := F₁.change hs' hLI.symm hnew
    obtain ⟨o, ho, hoc, hod⟩ := hit'
    refine wpAny_pure (wpAny_assign_Name (st_any (s := { s with heap := h', toks := tk }) (news := [(s.heap.objs.size, o)]) F2 (fun p hp => ?_) (fun h3 tk3 F3 N3 => ?_) hk hx))
    · rw [List.mem_singleton.mp hp]; exact ⟨ho, hLI.symm, hnew⟩
    have F4 : Fr h₀ L h3 (ov ((x, vs[i]) :: vals (loc c) T) m) := Fr.eqv F3 fun z => by
      show (if z = x then some vs[i] else m z) = if z = x then some vs[i] else ov (vals (loc c) T) m z
      rw [← ov_has hT z]
    refine wpAny_passesOwn hE (wpAny_mono (turn i vs[i] c m T h3 tk3 [(s.heap.objs.size, o)] (fun f s₃ => match f with | .ret v => Q (.ret v) s₃ | .brk => Q .next s₃ | _ => ∃ (c' : σ) (h' : Heap) (tk : Nat) (m' : Str → Option Value) (news' : List (Addr × Obj)), s₃ = { s with heap := h', toks := tk } ∧ Fr h₀ L h' m' ∧ News h₀ L h' news' ∧ (∀ p ∈ [(s.heap.objs.size, o)], p ∈ news') ∧ HasD m' (loc c') ∧ Inv (i + 1) c')
      (fun _ _ q => q) (fun c' h' tk' m' news' f n a b d => ⟨c', h', tk', m', news', rfl, f, n, a, b, d⟩) (by simp [hi]) hI₁ F4 N3) (fun f s₃ q => ?_) fun _ _ y => y)
    have fin : (∃ (c' : σ) (h' : Heap) (tk : Nat) (m' : Str → Option Value) (news' : List (Addr × Obj)), s₃ = { s with heap := h', toks := tk } ∧ Fr h₀ L h' m' ∧ News h₀ L h' news' ∧ (∀ p ∈ [(s.heap.objs.size, o)], p ∈ news') ∧ HasD m' (loc c') ∧ Inv (i + 1) c') →
        ∃ m, m < j ∧ ∃ (i : Nat) (c : σ) (h : Heap) (tk : Nat) (m' : Str → Option Value), i + m = vs.length ∧ s₃ = { s with heap := h, toks := tk } ∧ h.IsListIter s.heap.objs.size l i ∧ Fr h₀ L h m' ∧ HasD m' (loc c) ∧ Inv i c := by
      rintro ⟨c', h3, tk3, m', news', rfl, F3, N3, ho3, hm3, hI3⟩
      exact ⟨j - 1, by omega, i + 1, c', h3, tk3, m', by omega, rfl, ⟨o, (N3 _ (ho3 _ (.head _))).1, hoc, hod⟩, F3, hm3, hI3⟩
    cases f with
    | ret v => exact q
    | brk => exact q
    | next => exact fin q
    | cont => exact fin q
  · obtain rfl : i = vs.length := by omega
    refine list_endH (hc.keeps F₁.keep) hct hit (hl.at fun o e => F₁.keep _ _ e) (by simp) fun h' hk' => wpAny_passesOwn hE (wpAny_execs_nil ?_)
    exact done c m T h' tk hI₁ (Fr.ov ⟨F₁.ns.at fun o e => hk' L o hLI e, fun b o e => hk' b o (fun q => by rw [q, hnew] at e; cases e) (F₁.keep b o e), F₁.above⟩ hT)
end

/-- a list of strings -/
def StrList (h : Heap) (l : Addr) (xs : List (List Nat)) : Prop := ∃ vs, h.IsList l vs.toArray ∧ StrsAre vs (xs.map strOf)
theorem strOf_eq {a b : List Nat} : (strOf a == strOf b) = (a == b) := by
  rw [Bool.eq_iff_iff, beq_iff_eq, beq_iff_eq]
  unfold strOf
  constructor
  · intro h
    have := congrArg (fun s : Str => s.cps.toList) h
    simpa using this
  · rintro rfl; rfl
theorem getD_strOf (xs : List (List Nat)) (k : Nat) : (xs.map strOf).getD k Str.empty = strOf (xs.getD k []) := by
  rw [show Str.empty = strOf [] from rfl]
  simp [List.getD_eq_getElem?_getD, List.getElem?_map]
theorem any_strOf (xs : List (List Nat)) (x : List Nat) : ((xs.map strOf).any fun y => y == strOf x) = xs.contains x := by
  induction xs with
  | nil => rfl
  | cons y r ih => rw [List.map_cons, List.any_cons, ih, List.contains_cons, strOf_eq, BEq.comm]
theorem getitem_tells (w : World) (mean : ExcName → Option Value) (mg mb : Str → Option Value) (xs : List (List Nat)) (l : Addr) (i : Int) (t : Tok) (h0 : 0 ≤ i) (h1 : i < xs.length) (h2 : xs.length < 100) :
    Tells w mean mg mb 1 119 [.ref l, .int i t] (fun h => StrList h l xs) (fun v _ _ => ∃ t, v = .str (strOf (xs.getD i.toNat [])) t) := by
  unfold Tells
  k_fill
  intro dp un gd outer base s Q E B X T hpre hroom hret
  obtain ⟨lv, hll, hli⟩ := hpre
  refine enter [("a", .ref l), ("b", .int i t)] (by assumption) (by assumption) (by assumption) (Room.here (by assumption)) (by k_is) (by k_is) (by exact rfl) (by exact rfl) (by exact rfl) ?_ (by decide) (by exact rfl) (by exact rfl) (by exact rfl)
  intro L h₁ tk u F N
  k_fold
  k_extra "go"
  show Q _ _
  exact ret_str hret F (getD_strOf _ _)
theorem contains_tellsH (w : World) (mean : ExcName → Option Value) (mg mb : Str → Option Value) (xs : List (List Nat)) (x : List Nat) (l : Addr) (t : Tok) (h2 : xs.length < 100) :
    TellsH w mean mg mb 1 98 [.ref l, .str (strOf x) t] (fun h => StrList h l xs) (fun v _ _ => v = .bool (xs.contains x)) := by
  unfold TellsH
  k_fill
  intro hand dp un gd outer s Q E X T hctx hpre hroom hret
  obtain ⟨lv, hll, hli⟩ := hpre
  refine enterH [("a", .ref l), ("b", .str (strOf x) t)] (by assumption) (by assumption) (Room.here (by assumption)) (by k_is) (by k_is) (by exact rfl) (by exact rfl) (by exact rfl) ?_ (by decide) (by exact rfl) (by exact rfl) (by exact rfl)
  intro L h₁ tk u F N
  k_fold
  k_extra "go"
  show Q _ _
  exact ret_bool hret F (any_strOf _ _)
theorem contains_tells (w : World) (mean : ExcName → Option Value) (mg mb : Str → Option Value) (xs : List (List Nat)) (x : List Nat) (l : Addr) (t : Tok) (h2 : xs.length < 100) :
    Tells w mean mg mb 1 98 [.ref l, .str (strOf x) t] (fun h => StrList h l xs) (fun v _ _ => v = .bool (xs.contains x)) := (contains_tellsH w mean mg mb xs x l t h2).plain

theorem ns_none_of {K : Frag} {h : Heap} {a : Addr} {mg : Str → Option Value} {n : Str} (X : K.In h) (G : h.Ns a mg) (e : nsIn K a n = some none) : mg n = none := by
  obtain ⟨o, es, ep, ho, hd, _, hf⟩ := G
  unfold nsIn at e
  split at e
  · rename_i q
    have hx := X _ _ q
    rw [ho] at hx
    cases hx; cases hd
    split at e
    · cases e
    · rename_i he
      rw [← hf]
      unfold nsFind findBy
      rw [← Array.find?_toList, he]
      rfl
  · cases e
theorem booked {w : World} {mean : ExcName → Option Value} {mg mb : Str → Option Value} {h : Heap} (X : (hd.heap_39 w.params).In h) (T : TopF mean mg mb h) (e : nsIn (hd.heap_39 w.params) cStatics sharingNotToldKey = some none) : NoneBooked h := by
  obtain ⟨mc, hn, _⟩ := T.nolimit
  exact ⟨mc, hn, ns_none_of X hn e⟩
theorem booked_none (w : World) : nsIn (hd.heap_39 w.params) cStatics sharingNotToldKey = some none := by rfl
theorem is_strs {M : Model} {A : Around} {E : Value → Shared → Prop} {s : Shared} {y z : Str} {u v : Tok} {Q : Value → Shared → Prop} (hu : u ≠ 0) (hv : v ≠ 0) (hb : NoneBooked s.heap) (hyz : u = v → y = z) (hq : ∀ b, (b = true → y = z) → Q (.bool b) s) : wpAny M A (compareOp .Is (.str y u) (.str z v)) Q E s := by
  show wpAny M A (isSame.created (y == z) u v >>= fun b => pure (.bool b)) Q E s
  refine wpAny_bind ?_
  unfold isSame.created
  have h0 : (u == 0 || v == 0) = false := by simp [hu, hv]
  rw [h0]
  by_cases huv : u = v
  · rw [if_neg Bool.false_ne_true, if_pos (beq_iff_eq.mpr huv)]
    exact wpAny_pure (wpAny_pure (hq true fun _ => hyz huv))
  rw [if_neg Bool.false_ne_true, if_neg fun e => huv (beq_iff_eq.mp e)]
  by_cases e : y = z
  · rw [if_neg (by rw [beq_iff_eq.mpr e]; exact Bool.false_ne_true)]
    refine wpAny_bind (wpAny_sharingNotTold_none hb ?_)
    rw [if_neg Bool.false_ne_true]
    refine wpAny_bind (wpAny_sharingNotTold_none hb ?_)
    rw [if_neg Bool.false_ne_true]
    exact wpAny_bind (wpAny_rule (wpAny_bind (wpAny_askSetting (wpAny_pure (wpAny_pure (hq _ fun _ => e))))))
  · rw [if_pos (by rw [beq_eq_false_iff_ne.mpr e]; rfl)]
    exact wpAny_pure (wpAny_pure (hq false fun x => nomatch x))
/-- a list of strings whose tokens tell their texts -/
def TokList (f : Tok → List Nat) (h : Heap) (l : Addr) (xs : List (List Nat)) : Prop := ∃ vs, h.IsList l vs.toArray ∧ StrsAre vs (xs.map strOf) ∧ ∀ y t, Value.str y t ∈ vs → t ≠ 0 ∧ y = strOf (f t)
theorem toks_at {f : Tok → List Nat} {vs : List Value} {xs : List (List Nat)} (hs : StrsAre vs (xs.map strOf)) (hf : ∀ y t, Value.str y t ∈ vs → t ≠ 0 ∧ y = strOf (f t)) {i : Nat} {v : Value} (hv : vs[i]? = some v) : ∃ y t, v = .str (strOf y) t ∧ xs[i]? = some y ∧ t ≠ 0 ∧ strOf y = strOf (f t) := by
  obtain ⟨y, t, rfl, hy⟩ := hs.item i v hv
  rw [List.getElem?_map] at hy
  obtain ⟨x, hx, rfl⟩ := Option.map_eq_some_iff.mp hy
  have := hf _ _ (List.mem_of_getElem? hv)
  exact ⟨x, t, rfl, hx, this.1, this.2⟩
theorem strOf_inj {a b : List Nat} (h : strOf a = strOf b) : a = b := by
  have := strOf_eq (a := a) (b := b)
  rw [beq_iff_eq.mpr h] at this
  exact beq_iff_eq.mp this.symm
theorem count_take {xs : List (List Nat)} {x y : List Nat} {i : Nat} (h : xs[i]? = some y) : (xs.take (i + 1)).count x = (xs.take i).count x + (if y = x then 1 else 0) := by
  rw [List.take_add_one, h, List.count_append]
  simp [List.count_cons]
theorem countOf_tellsH (w : World) (mean : ExcName → Option Value) (mg mb : Str → Option Value) (f : Tok → List Nat) (xs : List (List Nat)) (x : List Nat) (l : Addr) (t : Tok) (ht : t ≠ 0) (hx : strOf x = strOf (f t)) :
    TellsH w mean mg mb 1 105 [.ref l, .str (strOf x) t] (fun h => TokList f h l xs) (fun v _ _ => ∃ t, v = .int (xs.count x) t) := by
  unfold TellsH
  k_fill
  intro hand dp un gd outer s Q E X T hctx hpre hroom hret
  obtain ⟨lv, hll, hli, hf⟩ := hpre
  refine enterH [("a", .ref l), ("b", .str (strOf x) t)] (by assumption) (by assumption) (Room.here (by assumption)) (by k_is) (by k_is) (by exact rfl) (by exact rfl) (by exact rfl) ?_ (by decide) (by exact rfl) (by exact rfl) (by exact rfl)
  intro L h₁ tk u F N
  k_fold
  k_extra "go"
  refine wpAny_For ?_ (by intro _; rfl)
  k_extra "go"
  refine for_listH (σ := Nat) (vs := lv) hctx hll F' (fun i c => c = (xs.take i).count x) (fun c => [("a", .r l), ("b", .val (.str (strOf x) t)), ("count", .i c)]) 0 (by k_extra "has") rfl ?_ ?_ (by passes_own) rfl rfl
  · intro i v c u TT h tk own Z ZR ZN hv hI F9 NN
    obtain ⟨y, t9, rfl, hy, ht9, hfy⟩ := toks_at hli hf hv
    dsimp only [vals, Dv.v] at F9
    have hc := count_take (x := x) hy
    rw [← hI] at hc
    clear F' N'
    k_extra "go"
    refine is_strs ht9 ht (booked (X.keeps F9.keep) (T.keeps F9.keep) (booked_none w)) (fun e => by rw [hfy, hx, e]) fun b hb => ?_
    cases b with
    | true =>
      have hyx : y = x := strOf_inj (hb rfl)
      rw [if_pos hyx] at hc
      k_extra "go"
      exact ZN (c + 1) _ _ _ _ F' N' (fun p hp => hp) (by k_extra "has") hc.symm
    | false =>
      k_extra "go"
      · rename_i q
        rw [if_pos (strOf_inj (beq_iff_eq.mp q))] at hc
        exact ZN (c + 1) _ _ _ _ F' N' (fun p hp => hp) (by k_extra "has") hc.symm
      · rename_i q
        rw [if_neg fun e => (beq_eq_false_iff_ne.mp q) (by rw [e])] at hc
        exact ZN c _ _ _ _ F9 NN (fun p hp => hp) (by k_extra "has") hc.symm
  · intro c u TT h tk hI F9
    dsimp only [vals, Dv.v] at F9
    clear F' N'
    have NN : News s.heap L h [] := News.nil
    k_extra "go"
    show Q _ _
    refine ret_int hret F9 ?_
    rw [hI, hli.length, List.length_map, List.take_length]
theorem countOf_tells (w : World) (mean : ExcName → Option Value) (mg mb : Str → Option Value) (f : Tok → List Nat) (xs : List (List Nat)) (x : List Nat) (l : Addr) (t : Tok) (ht : t ≠ 0) (hx : strOf x = strOf (f t)) :
    Tells w mean mg mb 1 105 [.ref l, .str (strOf x) t] (fun h => TokList f h l xs) (fun v _ _ => ∃ t, v = .int (xs.count x) t) := (countOf_tellsH w mean mg mb f xs x l t ht hx).plain

section
variable {prog : Program} {w : World} {A : Around} {E : Value → Shared → Prop} {s : Shared}
theorem set_at {l : Addr} {items : Array Value} {n : Nat} {f : Array Value → Array Value} {Q : Unit → Shared → Prop} {M : Model} (ho : s.heap.get? l = some (listOf items n)) (hz : items.size ≤ 1000) (hz' : (f items).size ≤ 1001)
    (hQ : ∀ h' n', h'.get? l = some (listOf (f items) n') → Heap.SameBut l s.heap h' → Q () { s with heap := h' }) : wpAny M A (updateSeq l f) Q E s := by
  have hu : (s.heap.update l (Obj.mapSeq f)).get? l = some (Obj.mapSeq f (listOf items n)) := Heap.get?_update_self _ ho rfl
  exact wpAny_updateSeq ho rfl (hQ _ _ hu (Heap.SameBut.update ..)) (by unfold sizeLine; omega) (by unfold sizeLine; omega)
theorem delItem_int {l : Addr} {items : Array Value} {n : Nat} {k : Int} {t : Tok} {Q : Unit → Shared → Prop} (ho : s.heap.get? l = some (listOf items n)) (h0 : 0 ≤ k) (hn : k < items.size) (hz : items.size ≤ 1000)
    (hQ : ∀ h' n', h'.get? l = some (listOf (items.eraseIdxIfInBounds k.toNat) n') → Heap.SameBut l s.heap h' → Q () { s with heap := h' }) :
    wpAny (model prog w) A (delItem (.ref l) (.int k t)) Q E s := by
  have hT : s.TypeIs (.ref l) "list" := ⟨_, ho, rfl⟩
  unfold delItem
  refine wpAny_holding (wpAny_bind (wpAny_sequenceKey hT (by decide) ?_))
  refine wpAny_bind (wpAny_callSpecial?_slot (name := Str.ofString "__delitem__") hT F.slot_list_delitem (wpAny_call_entry F.slot_list_delitem hT F.entry_list_delitem ?_ (F.args_list_delitem_2 _ _)))
  show wpAny _ _ (Builtin.List.listSubscript? (.int k t) >>= _) _ _ s
  refine wpAny_bind (wpAny_listSubscript_int (fitsIndex_of h0 (by omega)) ?_)
  show wpAny _ _ (Builtin.List.listItems (.ref l) >>= _) _ _ s
  refine wpAny_bind (wpAny_listItems ho rfl ?_)
  have hi : seqIndex? k items.size = some k.toNat := by
    unfold seqIndex?
    have e : ¬ k < 0 := by omega
    simp only [e, if_false]
    rw [if_pos (by simp; omega)]
  rw [hi]
  show wpAny _ _ (updateSeq l (·.eraseIdxIfInBounds k.toNat) >>= _) _ _ s
  refine wpAny_bind (set_at ho hz ?_ fun h' n' h1 h2 => ?_)
  · show (items.eraseIdxIfInBounds k.toNat).size ≤ 1001
    unfold Array.eraseIdxIfInBounds
    split
    · rw [Array.size_eraseIdx]; omega
    · omega
  · exact wpAny_pure ⟨.none, rfl, wpAny_pure (hQ _ _ h1 h2)⟩
end
/-- a call that writes to one list, and gives back None -/
def TellsM (w : World) (mean : ExcName → Option Value) (mg mb : Str → Option Value) (lv : Nat) (f : Addr) (vs : List Value) (l : Addr) (items new : List Value) (pre : Heap → Prop) : Prop :=
  ∀ (dp un : Nat) (gd : Option (List Code)) (outer : List Env) (base : Heap) (s : Shared) (Q E : Value → Shared → Prop) (n : Nat),
    Below (Ar dp un gd outer) base outer s.heap → (hd.heap_39 w.params).In s.heap → TopF mean mg mb s.heap → s.heap.get? l = some (listOf items.toArray n) → pre s.heap → Room dp un lv →
    (∀ n' h' tk', h'.get? l = some (listOf new.toArray n') → (∀ b o, b ≠ l → s.heap.get? b = some o → h'.get? b = some o) → Q .none { s with heap := h', toks := tk' }) →
    wpAny (model PySem.Challenge.rw_nb0162_01.row.prog w) (Ar dp un gd outer) (call (.ref f) vs) Q E s
theorem TellsM.use {w : World} {mean : ExcName → Option Value} {mg mb : Str → Option Value} {lv : Nat} {f : Addr} {vs : List Value} {l : Addr} {items new : List Value} {pre : Heap → Prop}
    {A₀ : Around} {base h₀ : Heap} {outer : List Env} {dp un : Nat} {gd : Option (List Code)} {L a : Addr} {m : Str → Option Value} {name : Str} {scope : Scope} {cd : Value} {news : List (Addr × Obj)} {s : Shared} {Q E : Value → Shared → Prop} {n : Nat} {g : Obj → List (Addr × Obj)}
    (C : TellsM w mean mg mb lv f vs l items new pre) (B : Below A₀ base outer h₀) (F : Fr h₀ L s.heap m) (X : (hd.heap_39 w.params).In h₀) (N : News h₀ L s.heap news) (T : TopF mean mg mb h₀) (hk : scope.kind = .function) (U : UpdF l (listOf items.toArray n) news g) (hp : pre s.heap)
    (hd : Room dp un lv)
    (k : ∀ n' h' tk', Fr h₀ L h' m → News h₀ L h' (g (listOf new.toArray n')) → Q .none { s with heap := h', toks := tk' }) :
    wpAny (model PySem.Challenge.rw_nb0162_01.row.prog w) (Ar dp un gd (envOf name scope L a cd :: outer)) (call (.ref f) vs) Q E s := by
  obtain ⟨p1, p2, rfl, hg, h1, h2⟩ := U.split
  have z := N (l, listOf items.toArray n) (List.mem_append.mpr (.inr (.head _)))
  refine C dp un gd _ base s Q E n (below_here B F hk) (X.keeps F.keep) (T.keeps F.keep) z.1 hp hd fun n' h' tk' ho hb => k n' h' tk' ?_ ?_
  · exact ⟨F.ns.at fun o e => hb L o (Ne.symm z.2.1) e, fun b o e => hb b o (fun q => by rw [q, z.2.2] at e; cases e) (F.keep b o e), F.above⟩
  · rw [hg]
    intro p hp
    rcases List.mem_append.mp hp with q | q
    · exact ⟨hb _ _ (h1 p q) (N p (List.mem_append_left _ q)).1, (N p (List.mem_append_left _ q)).2⟩
    · rcases List.mem_cons.mp q with rfl | q
      · exact ⟨ho, z.2⟩
      · have := N p (List.mem_append_right _ (.tail _ q))
        exact ⟨hb _ _ (h2 p q) this.1, this.2⟩
theorem delitem_tells (w : World) (mean : ExcName → Option Value) (mg mb : Str → Option Value) (items : List Value) (l : Addr) (i : Int) (t : Tok) (h0 : 0 ≤ i) (h1 : i < items.length) (h2 : items.length ≤ 100) :
    TellsM w mean mg mb 1 112 [.ref l, .int i t] l items (items.eraseIdx i.toNat) (fun _ => True) := by
  unfold TellsM
  k_fill
  intro dp un gd outer base s Q E n B X T ho hpre hroom hret
  refine enter [("a", .ref l), ("b", .int i t)] (by assumption) (by assumption) (by assumption) (Room.here (by assumption)) (by k_is) (by k_is) (by exact rfl) (by exact rfl) (by exact rfl) ?_ (by decide) (by exact rfl) (by exact rfl) (by exact rfl)
  intro L h₁ tk u F N
  k_fold
  k_extra "go"
  refine delItem_int (F.keep _ _ ho) h0 (by rw [List.size_toArray]; exact h1) (by rw [List.size_toArray]; omega) fun h' n' g1 g2 => ?_
  k_extra "go"
  show Q .none _
  refine hret n' h' tk ?_ fun b o hb e => (g2.2 b hb).trans (F.keep b o e)
  rw [g1, List.eraseIdxIfInBounds_toArray]

theorem refused_tells (w : World) (mean : ExcName → Option Value) (mg mb : Str → Option Value) (P : InsP) (t1 t2 : Tok) (hX : InsX P) (hm : P.more ≠ []) :
    TellsX w mean mg mb 4 182 [.str (strOf P.txt) t1, .bytes P.x.toArray t2] (fun _ => True) (fun v _ _ => v = .bool true) := by
  unfold TellsX
  k_fill
  intro dp un gd outer base s Q E B XB TB D hpre hroom hret
  have X := XB.keeps B.stays
  have T := TB.keeps B.stays
  refine enterX [("base", .str (strOf P.txt) t1), ("octets", .bytes P.x.toArray t2)] (by assumption) (XB.keeps B.stays) (TB.keeps B.stays) (Room.here (by assumption)) (by k_is) (by k_is) (by exact rfl) (by exact rfl) (by exact rfl) ?_ (by decide) (by exact rfl) (by exact rfl) (by exact rfl)
  intro L h₁ tk u E' PO PA LV F N
  k_fold
  k_extra "go"
  refine insort_all w mean mg mb P "strict" _ _ _ hX (dp + 1) (un + 3) gd _ base _ _ _ (below_here B F rfl) XB TB (Room.down hroom rfl) (fun q => absurd q hm) (fun _ q => absurd rfl q) ?_
  intro _ _ e h2 tk2 r u2
  refine caught_SN0 (A₀ := Ar dp un gd outer) r F B u2 XB TB D KtsTurn.refl (by k_is) (by kernel_rfl) (by decide +kernel) ude_raise.isExc (by rw [isSubtype_type]; kernel_rfl) ude_new.sub ?_ rfl rfl (by decide) (PA _)
  intro h6 g6 T6 F6 N6 K6 X6 TT6 _
  clear F N
  dsimp only
  k_extra "go"
  show Q _ _
  exact hret _ g6 _ _ T6 F6.keep rfl

theorem indexOf_all (w : World) (mean : ExcName → Option Value) (mg mb : Str → Option Value) (f : Tok → List Nat) (xs : List (List Nat)) (x : List Nat) (l : Addr) (t : Tok) (ht : t ≠ 0) (hx : strOf x = strOf (f t)) :
    ∀ (dp un : Nat) (gd : Option (List Code)) (outer : List Env) (base : Heap) (s : Shared) (Q E : Value → Shared → Prop),
      Below (Ar dp un gd outer) base outer s.heap → (hd.heap_39 w.params).In base → TopF mean mg mb base → TokList f s.heap l xs → Room dp un 1 →
      (∀ (k : Nat) t h' tk', xs[k]? = some x → (∀ j, j < k → xs[j]? ≠ some x) → s.heap.StaysIn h' → Q (.int k t) { s with heap := h', toks := tk' }) →
      (x ∉ xs → ∀ e h' tk', RaisedE base s.heap outer e "ValueError" h' → s.heap.UpToSlots h' → E (.ref e) { s with heap := h', toks := tk' }) →
      wpAny (model PySem.Challenge.rw_nb0162_01.row.prog w) (Ar dp un gd outer) (call (.ref 126) [.ref l, .str (strOf x) t]) Q E s := by
  k_fill
  intro dp un gd outer base s Q E B XB TB hpre hroom hfound hraise
  obtain ⟨lv, hll, hli, hf⟩ := hpre
  have X := XB.keeps B.stays
  have T := TB.keeps B.stays
  refine enterX [("a", .ref l), ("b", .str (strOf x) t)] (by assumption) (XB.keeps B.stays) (TB.keeps B.stays) (Room.here (by assumption)) (by k_is) (by k_is) (by exact rfl) (by exact rfl) (by exact rfl) ?_ (by decide) (by exact rfl) (by exact rfl) (by exact rfl)
  intro L h₁ tk u E' PO PA LV F N
  k_fold
  refine wpAny_execs_cons (wpAny_For ?_ (by intro _; rfl))
  k_extra "go"
  refine for_enumE (σ := Unit) (vs := lv) rfl (hll.at fun o e => F.keep _ _ e) (base_ne F hll) F N (by decide) (fun i _ => ∀ j, j < i → xs[j]? ≠ some x) (fun _ => []) (fun _ => [("a", .r l), ("b", .val (.str (strOf x) t))]) [] (fun _ => rfl) () (by k_extra "has") (fun p hp => nomatch hp) (fun j hj => absurd hj (Nat.not_lt_zero j)) ?_ ?_ PO rfl rfl rfl
  · intro i v ti c u TT h tk own Z ZR ZN hv hI hown F9 NN
    obtain ⟨y, t9, rfl, hy, ht9, hfy⟩ := toks_at hli hf hv
    dsimp only [vals, Dv.v] at F9
    clear F N
    k_extra "go"
    refine is_strs ht9 ht (booked (X.keeps F9.keep) (T.keeps F9.keep) (booked_none w)) (fun e => by rw [hfy, hx, e]) fun b hb => ?_
    cases b with
    | true =>
      have hyx : y = x := strOf_inj (hb rfl)
      subst hyx
      k_extra "go"
      exact ZR _ _ (hfound i _ _ _ hy hI F9.keep)
    | false =>
      k_extra "go"
      · rename_i q
        have hyx : y = x := strOf_inj (beq_iff_eq.mp q)
        subst hyx
        exact ZR _ _ (hfound i _ _ _ hy hI F9.keep)
      · rename_i q
        refine ZN () _ _ _ _ F9 NN (fun p hp => nomatch hp) (fun p hp => hp) (by k_extra "has") fun j hj => ?_
        by_cases e : j = i
        · subst e; rw [hy]; intro e; cases e; exact (beq_eq_false_iff_ne.mp q) rfl
        · exact hI j (by omega)
  · intro c u TT h tk hI F9 NN
    dsimp only [vals, Dv.v] at F9
    clear F N
    k_extra "go"
    rename_i hx9
    rw [hli.length, List.length_map] at hI
    have hno : x ∉ xs := fun hm => by
      obtain ⟨j, hj, e⟩ := List.mem_iff_getElem.mp hm
      exact hI j hj (List.getElem?_eq_some_iff.mpr ⟨hj, e⟩)
    exact LV _ _ (leave_newE (A := Ar dp un gd outer) B F9 hx9 (fun h8 r8 u8 => hraise hno _ _ _ r8 u8) rfl)

theorem list_turn {l : Addr} {items : Array Value} {fs : List Addr} {g g' : Heap} (D : KtsDicts fs g) (T : KtsTurn fs g g') (hl : g.IsList l items) : g'.IsList l items := by
  refine hl.at fun o e => T.other _ _ e fun hm => ?_
  obtain ⟨o', es, n, ho', hd⟩ := D l hm
  obtain ⟨o2, ho2, _, n2, hd2⟩ := hl
  rw [ho2] at ho'; cases ho'
  rw [hd2] at hd; cases hd
theorem absent_tells (w : World) (mean : ExcName → Option Value) (mg mb : Str → Option Value) (f : Tok → List Nat) (xs : List (List Nat)) (x : List Nat) (l : Addr) (t : Tok) (ht : t ≠ 0) (hx : strOf x = strOf (f t)) (hxs : x ∉ xs) (hn : xs.length < 100) :
    TellsX w mean mg mb 2 175 [.ref l, .str (strOf x) t] (fun h => TokList f h l xs) (fun v _ _ => v = .bool true) := by
  unfold TellsX
  k_fill
  intro dp un gd outer base s Q E B XB TB D hpre hroom hret
  obtain ⟨lv, hll, hli, hf⟩ := hpre
  have X := XB.keeps B.stays
  have T := TB.keeps B.stays
  refine enterX [("signs", .ref l), ("sign", .str (strOf x) t)] (by assumption) (XB.keeps B.stays) (TB.keeps B.stays) (Room.here (by assumption)) (by k_is) (by k_is) (by exact rfl) (by exact rfl) (by exact rfl) ?_ (by decide) (by exact rfl) (by exact rfl) (by exact rfl)
  intro L h₁ tk u E' PO PA LV F N
  k_fold
  k_extra "go"
  refine indexOf_all w mean mg mb f xs x l t ht hx (dp + 1) (un + 3) gd _ base _ _ _ (below_here B F rfl) XB TB ⟨lv, hll.at fun o e => F.keep _ _ e, hli, hf⟩ (Room.down hroom rfl) (fun k _ _ _ q => absurd (List.mem_of_getElem? q) hxs) ?_
  intro _ e h2 tk2 r u2
  refine caught_onE (A₀ := Ar dp un gd outer) r F B u2 XB TB (by k_is) PyProof.Rows.Boot.«ValueError» (by decide +kernel) PySem.F.isExc_ValueError PySem.F.notTuple_ValueError (by rw [isSubtype_type]; kernel_rfl) ?_ rfl rfl (by decide) (PA _)
  intro h6 g6 T6 F6 K6 hc
  have X6 := XB.keeps K6.stays
  have TT6 := TB.keeps K6.stays
  have hl6 := list_turn D T6 hll
  have N6 : News g6 L h6 [] := News.nil
  clear F N
  dsimp only
  k_extra "go"
  refine countOf_tellsH w mean mg mb f xs x l t ht hx (some (.ref e)) (dp + 1) (un + 3) gd _ _ _ _ (X6.keeps F6.keep) (TT6.keeps F6.keep) (.inr ⟨e, rfl, hc⟩) ⟨lv, hl6.at fun o q => F6.keep _ _ q, hli, hf⟩ (Room.down hroom rfl) ?_
  rintro _ h7 tk7 st ⟨t7, rfl⟩
  have F7 := fr_stays F6 st
  have N7 := news_stays N6 st
  obtain ⟨oc, vc, hc1, hc2⟩ := hc
  have hc7 : ∃ oc vc, h7.get? e = some oc ∧ oc.data = .fields vc ∧ vc[2]? = some .none := ⟨oc, vc, st _ _ hc1, hc2⟩
  rw [List.count_eq_zero.mpr hxs]
  clear F6 N6
  k_extra "go"
  refine contains_tellsH w mean mg mb xs x l t hn (some (.ref e)) (dp + 1) (un + 3) gd _ _ _ _ (X6.keeps F7.keep) (TT6.keeps F7.keep) (.inr ⟨e, rfl, hc7⟩) ⟨lv, hl6.at fun o q => F7.keep _ _ q, hli⟩ (Room.down hroom rfl) ?_
  rintro _ h8 tk8 st8 rfl
  have F8 := fr_stays F7 st8
  have N8 := news_stays N7 st8
  rw [show xs.contains x = false by rw [Bool.eq_false_iff]; intro q; exact hxs (List.contains_iff_mem.mp q)]
  clear F7 N7
  k_extra "go"
  exact hret _ g6 _ _ T6 F8.keep rfl

section
variable {prog : Program} {w : World} {A : Around} {E : Value → Shared → Prop} {s : Shared}
theorem bounds_at {p : Int} {n : Nat} (h0 : 0 ≤ p) (h1 : p ≤ n) : sliceBounds (some p) (some p) none n = (p, p, 1) := by
  unfold sliceBounds
  have hn : ¬ p < 0 := by omega
  simp only [Option.getD_none, hn, if_false]
  have : max 0 (min p (n : Int)) = p := by omega
  simp [this]
theorem setItem_slice {l c a : Addr} {items new : List Value} {n n2 : Nat} {p : Int} {t1 t2 : Tok} {Q : Unit → Shared → Prop} (ho : s.heap.get? l = some (listOf items.toArray n)) (hc : s.heap.get? c = some (listOf new.toArray n2)) (hlc : l ≠ c)
    (hs : s.heap.IsSliceOf a (.int p t1) (.int p t2) .none) (h0 : 0 ≤ p) (h1 : p ≤ items.length) (hz : items.length ≤ 100) (hz2 : new.length ≤ 100)
    (hQ : ∀ h' n', h'.get? l = some (listOf (items.take p.toNat ++ new ++ items.drop p.toNat).toArray n') → Heap.SameBut l s.heap h' → Q () { s with heap := h' }) :
    wpAny (model prog w) A (setItem (.ref l) (.ref a) (.ref c)) Q E s := by
  have hl : s.heap.IsList l items.toArray := PySem.IsL.isList (n := n) ho
  have hlc' : s.heap.IsList c new.toArray := PySem.IsL.isList (n := n2) hc
  obtain ⟨os, hos, hcs, hds⟩ := id hs
  have hTs : s.TypeIs (.ref a) "slice" := ⟨os, hos, hcs⟩
  unfold setItem
  try with_reducible refine wpAny_holding ?_
  first | refine wpAny_bind (wpAny_pure ?_) | skip
  refine wpAny_bind (wpAny_sequenceKey hl.typeIs (by decide) ?_)
  refine wpAny_bind (wpAny_callSpecial?_slot (name := Str.ofString "__setitem__") hl.typeIs slot_list_setitem
    (wpAny_call_entry slot_list_setitem hl.typeIs entry_list_setitem ?_ (args_list_setitem _ _ _)))
  show wpAny _ _ (Builtin.List.listSubscript? (.ref a) >>= _) _ _ s
  refine wpAny_bind ?_
  unfold Builtin.List.listSubscript?
  refine wpAny_bind (wpAny_specialOf hTs slice_no_index ?_)
  simp only [Option.isNone_none, if_true]
  refine wpAny_pure ?_
  show wpAny _ _ (typeOf (.ref a) >>= _) _ _ s
  refine wpAny_bind (wpAny_typeOf hTs ?_)
  rw [if_neg (by decide)]
  rw [listSliceParts_eq]
  refine wpAny_bind (wpAny_bind (wpAny_field hos hds (x := .none) rfl (wpAny_bind (wpAny_listPart .none ?_))))
  rw [if_neg (by decide)]
  refine wpAny_bind (wpAny_field hos hds (x := .int p t1) rfl (wpAny_bind (wpAny_listPart (.int p t1) ?_)))
  refine wpAny_bind (wpAny_field hos hds (x := .int p t2) rfl (wpAny_bind (wpAny_listPart (.int p t2) (wpAny_pure ?_))))
  have hsame : Builtin.List.listSameRef (.ref l) (.ref c) = false := by simp [Builtin.List.listSameRef, hlc]
  rw [hsame]
  refine wpAny_bind ?_
  show wpAny _ _ (Builtin.List.listAllItems (.ref c) _) _ _ s
  unfold Builtin.List.listAllItems
  refine wpAny_bind (wpAny_typeOf hlc'.typeIs ?_)
  show wpAny _ _ (Builtin.List.listItems (.ref c)) _ _ s
  refine wpAny_listItems hc rfl ?_
  refine wpAny_bind (wpAny_listItems ho rfl ?_)
  refine wpAny_bind (wpAny_of_eq (sliceIndices_raw (some p) (some p) none items.toArray.size (by simp)) ?_)
  rw [List.size_toArray, bounds_at h0 h1]
  show wpAny _ _ (rule _ >>= _) _ _ s
  refine wpAny_bind (wpAny_rule ?_)
  rw [if_neg (by simp [Builtin.List.listTooLong]; unfold sizeLine; omega)]
  dsimp only
  show wpAny _ _ (updateSeq l _ >>= _) _ _ s
  have hmax : (max p p).toNat = p.toNat := by rw [Int.max_self]
  have hex : items.toArray.extract 0 p.toNat ++ new.toArray ++ items.toArray.extract (max p p).toNat = (items.take p.toNat ++ new ++ items.drop p.toNat).toArray := by
    rw [hmax]; simp
    exact List.take_of_length_le (by rw [List.length_drop]; exact Nat.le_refl _)
  refine wpAny_bind (set_at ho (by rw [List.size_toArray]; omega) ?_ fun h' n' g1 g2 => wpAny_bind (wpAny_letGo (wpAny_pure ⟨.none, rfl, wpAny_pure (hQ h' n' ?_ g2)⟩)))
  · rw [hex, List.size_toArray]; simp only [List.length_append, List.length_take, List.length_drop]; omega
  · rw [g1, hex]
end
theorem setitem_tells (w : World) (mean : ExcName → Option Value) (mg mb : Str → Option Value) (items new : List Value) (l a c : Addr) (n2 : Nat) (p : Int) (t1 t2 : Tok) (hlc : l ≠ c) (h0 : 0 ≤ p) (h1 : p ≤ items.length) (h2 : items.length ≤ 100) (h3 : new.length ≤ 100) :
    TellsM w mean mg mb 1 133 [.ref l, .ref a, .ref c] l items (items.take p.toNat ++ new ++ items.drop p.toNat) (fun h => h.IsSliceOf a (.int p t1) (.int p t2) .none ∧ h.get? c = some (listOf new.toArray n2)) := by
  unfold TellsM
  k_fill
  intro dp un gd outer base s Q E n B X T ho hpre hroom hret
  refine enter [("a", .ref l), ("b", .ref a), ("c", .ref c)] (by assumption) (by assumption) (by assumption) (Room.here (by assumption)) (by k_is) (by k_is) (by exact rfl) (by exact rfl) (by exact rfl) ?_ (by decide) (by exact rfl) (by exact rfl) (by exact rfl)
  intro L h₁ tk u F N
  k_fold
  k_extra "go"
  · exact setItem_slice (F.keep _ _ ho) (F.keep _ _ hpre.2) hlc (let ⟨os, hos, r⟩ := hpre.1; ⟨os, F.keep _ _ hos, r⟩) h0 h1 h2 h3 fun h' n' g1 g2 => wpAny_execs_nil (hret n' h' tk g1 fun b o hb e => (g2.2 b hb).trans (F.keep b o e))

/-! list(str): the signs, each with its own token -/
section
variable {prog : Program} {w : World} {A : Around} {E : Value → Shared → Prop} {s : Shared}
def TokAt (x : Str) (n : Nat) (j : Nat) (v : Value) : Prop := ∃ c, x.cps[j]? = some c ∧ v = .str ⟨#[c]⟩ (n + j)
abbrev seqObj (acc : Array Value) (c : Nat) : Obj := { cls := .type "list", dict := none, data := .seq acc c, slots := #[] }
theorem ext_loop {R : Result → Shared → Prop} {I S : Addr} {cls : String} {x : Str} {t : Tok} {n : Nat} {res : Value} (hn : x.cps.size ≤ 1000) (hSI : S ≠ I)
    (item : ∀ (i c : Nat) (s : Shared) (Q : Option Value → Shared → Prop) (E : Value → Shared → Prop), s.heap.IsStrIter I cls x t i → x.cps[i]? = some c →
      (∀ h', h'.IsStrIter I cls x t (i + 1) → Heap.SameBut I s.heap h' → Q (some (.str ⟨#[c]⟩ s.toks)) { s with heap := h', toks := s.toks + 1 }) → wpAny (model prog w) A.in1 (pyNext (.ref I)) Q E s)
    (fin : ∀ (s : Shared) (Q : Option Value → Shared → Prop) (E : Value → Shared → Prop), s.heap.IsStrIter I cls x t x.cps.size → (∀ h', Heap.ExtBut I s.heap h' → Q none { s with heap := h' }) → wpAny (model prog w) A.in1 (pyNext (.ref I)) Q E s) :
    ∀ (k i : Nat) (s : Shared) (acc : Array Value) (c : Nat), x.cps.size - i = k → i ≤ x.cps.size → s.heap.IsStrIter I cls x t i → s.heap.get? S = some (seqObj acc c) → ItemsOf (TokAt x n) acc i → s.toks = n + i →
    (∀ h' acc' c', (∀ b o, b ≠ S → b ≠ I → s.heap.get? b = some o → h'.get? b = some o) → h'.get? S = some (seqObj acc' c') → ItemsOf (TokAt x n) acc' x.cps.size → R (.ok (.ret res)) { s with heap := h', toks := n + x.cps.size }) →
    codeAny (model prog w) A (.builtin "list.extend.loop" ⟨[.ref S, .ref I, res], []⟩) R s := by
  intro k
  induction k with
  | zero =>
    intro i s acc c hk hi hst hS hacc htk hR
    obtain rfl : i = x.cps.size := by omega
    refine codeAny_builtin F.entry_extend_loop ?_
    rw [Around.under_plainId F.plain_extend_loop _]
    show wpAny _ A.in1 (pyNext (.ref I) >>= _) _ _ s
    refine wpAny_bind (fin s _ _ hst fun h' he => ?_)
    have := hR h' acc c (fun b o _ hb e => he b o hb e) (he S _ hSI hS) hacc
    rw [← htk] at this
    exact wpAny_pure this
  | succ k ih =>
    intro i s acc c hk hi hst hS hacc htk hR
    have hlt : i < x.cps.size := by omega
    refine codeAny_builtin F.entry_extend_loop ?_
    rw [Around.under_plainId F.plain_extend_loop _]
    show wpAny _ A.in1 (pyNext (.ref I) >>= _) _ _ s
    refine wpAny_bind (item i x.cps[i] s _ _ hst (by simp [hlt]) fun h' hst' hs' => ?_)
    have hS' := hs'.extBut S _ hSI hS
    show wpAny _ A.in1 (updateSeq S (·.push (.str ⟨#[x.cps[i]]⟩ s.toks)) >>= _) _ _ _
    have other : ∀ b o, b ≠ S → h'.get? b = some o → (h'.update S (Obj.mapSeq (·.push (.str ⟨#[x.cps[i]]⟩ s.toks)))).get? b = some o := fun b o hb e => (Heap.get?_update_other _ _ (Ne.symm hb)).trans e
    refine wpAny_bind (wpAny_updateSeq hS' rfl (wpAny_pure ⟨plainId_quiet F.plain_extend_loop _, ih (i + 1) _ (acc.push (.str ⟨#[x.cps[i]]⟩ s.toks)) _ (by omega) hlt ?_ (Heap.get?_update_self _ hS' rfl) (hacc.push ⟨x.cps[i], by simp [hlt], by rw [htk]⟩) ?_ fun h'' acc' c' hk'' hS'' hacc' => ?_⟩)
      (by rw [hacc.1]; unfold sizeLine; omega) (by show (acc.push _).size ≤ sizeLine + 1; rw [Array.size_push, hacc.1]; unfold sizeLine; omega))
    · obtain ⟨o, ho, r⟩ := hst'; exact ⟨o, other I o hSI.symm ho, r⟩
    · show s.toks + 1 = n + (i + 1); omega
    · exact hR h'' acc' c' (fun b o h1 h2 e => hk'' b o h1 h2 (other b o h1 (hs'.extBut b o h2 e))) hS'' hacc'
theorem iter_str {x : Str} {t : Tok} {Q : Value → Shared → Prop}
    (hQ : ∀ (o : Obj) (cls : String), (s.heap.push o).IsStrIter s.heap.objs.size cls x t 0 →
      (∀ (A' : Around) (i c : Nat) (s' : Shared) (Q : Option Value → Shared → Prop) (E : Value → Shared → Prop), s'.heap.IsStrIter s.heap.objs.size cls x t i → x.cps[i]? = some c →
        (∀ h', h'.IsStrIter s.heap.objs.size cls x t (i + 1) → Heap.SameBut s.heap.objs.size s'.heap h' → Q (some (.str ⟨#[c]⟩ s'.toks)) { s' with heap := h', toks := s'.toks + 1 }) → wpAny (model prog w) A' (pyNext (.ref s.heap.objs.size)) Q E s') →
      (∀ A' : Around, A'.handled = none → ∀ (s' : Shared) (Q : Option Value → Shared → Prop) (E : Value → Shared → Prop), s'.heap.IsStrIter s.heap.objs.size cls x t x.cps.size → (∀ h', Heap.ExtBut s.heap.objs.size s'.heap h' → Q none { s' with heap := h' }) → wpAny (model prog w) A' (pyNext (.ref s.heap.objs.size)) Q E s') →
      Q (.ref s.heap.objs.size) { s with heap := s.heap.push o }) : wpAny (model prog w) A (pyIter (.str x t)) Q E s := by
  cases ha : x.cps.all (· < 128)
  · refine wpAny_pyIter_wide ha (hQ _ "str_iterator" ⟨_, Heap.get?_push_size _ rfl, rfl, rfl⟩ (fun A' i c s' Q E st hx hQ => wpAny_pyNext_wide_item st hx hQ) fun A' hh s' Q E st hQ => wpAny_pyNext_wide_end hh st (by simp) hQ)
  · refine wpAny_pyIter_ascii ha (hQ _ "str_ascii_iterator" ⟨_, Heap.get?_push_size _ rfl, rfl, rfl⟩ (fun A' i c s' Q E st hx hQ => wpAny_pyNext_ascii_item st hx hQ) fun A' hh s' Q E st hQ => wpAny_pyNext_ascii_end hh st (by simp) hQ)
theorem ext_str {R : Result → Shared → Prop} (hh : A.handled = none) (x : Str) (t : Tok) (S : Addr) (res : Value) (c₀ : Nat) (hn : x.cps.size ≤ 1000) (hS : s.heap.get? S = some (seqObj #[] c₀))
    (hR : ∀ h' acc' c', (∀ b o, b ≠ S → s.heap.get? b = some o → h'.get? b = some o) → h'.get? S = some (seqObj acc' c') → ItemsOf (TokAt x s.toks) acc' x.cps.size → R (.ok (.ret res)) { s with heap := h', toks := s.toks + x.cps.size }) :
    wpAny (model prog w) A.in1 (Builtin.List.listExtendWith (.ref S) (.str x t) res)
      (fun fin s' => match fin with | .done f => R (.ok f) s' | .again c' => c'.quiet = true ∧ codeAny (model prog w) A c' R s') (fun e s' => R (.error e) s') s := by
  have hSI : S ≠ s.heap.objs.size := Nat.ne_of_lt (Heap.lt_size hS)
  unfold Builtin.List.listExtendWith
  refine wpAny_bind (wpAny_typeOf (T := "str") (v := .str x t) rfl ?_)
  have h1 : Builtin.List.listSameRef (.ref S) (.str x t) = false := rfl
  have h2 : (Value.type "str" == Value.type "list") = false := by decide
  have h3 : (Value.type "str" == Value.type "tuple") = false := by decide
  simp only [h1, h2, h3, Bool.or_false, Bool.false_eq_true, if_false]
  refine wpAny_bind (iter_str fun o cls hst item fin => ?_)
  refine wpAny_bind (wpAny_holding ?_)
  unfold Builtin.List.listLengthHint
  refine wpAny_bind (wpAny_specialOf (T := "str") (v := .str x t) rfl F.str_len ?_)
  wp_delta
  refine wpAny_bind (wpAny_isInstance (T := "str") (v := .str x t) (b := true) rfl (by rw [isSubtype_type]; kernel_rfl) ?_)
  show wpAny _ _ (typeOf (Value.str x t) >>= _) _ _ _
  refine wpAny_bind (wpAny_typeOf (T := "str") (v := .str x t) rfl ?_)
  refine wpAny_pure ?_
  rw [if_neg (by decide)]
  refine wpAny_pure ⟨plainId_quiet F.plain_extend_loop _, ext_loop (n := s.toks) hn hSI (item A.in1) (fin A.in1 hh) x.cps.size 0 _ #[] c₀ rfl (Nat.zero_le _) hst (Heap.get?_push_of_some _ hS) (ItemsOf.nil _) rfl fun h' acc' c' hk hS' hacc => ?_⟩
  exact hR h' acc' c' (fun b ob hb e => hk b ob hb (Nat.ne_of_lt (Heap.lt_size e)) (Heap.get?_push_of_some _ e)) hS' hacc
theorem list_tok {Q : Value → Shared → Prop} (hh : A.handled = none) (x : Str) (t : Tok) (hn : x.cps.size ≤ 1000)
    (hQ : ∀ h' acc' c', (∀ b o, s.heap.get? b = some o → h'.get? b = some o) → h'.get? s.heap.objs.size = some (seqObj acc' c') → ItemsOf (TokAt x s.toks) acc' x.cps.size → Q (.ref s.heap.objs.size) { s with heap := h', toks := s.toks + x.cps.size }) :
    wpAny (model prog w) A (call (.type "list") [.str x t]) Q E s := by
  refine callType_codes (Q₁ := fun obj s₁ => obj = .ref s.heap.objs.size ∧ s₁ = { s with heap := s.heap.push { cls := .type "list", data := .seq #[] } }) F.called_list (F.typeCall_list_1 _) F.entry_list_init
    (code_list_new _ ⟨rfl, rfl⟩) fun obj s₁ h₁ => ?_
  obtain ⟨rfl, rfl⟩ := h₁
  have hS : (s.heap.push { cls := .type "list", data := .seq #[] }).get? s.heap.objs.size = some { cls := .type "list", data := .seq #[] } := Heap.get?_push_size _ rfl
  refine ⟨⟨_, hS, rfl⟩, F.args_list_init_2 _ _, ?_⟩
  show wpAny _ A.in1.in1 (do let old ← Builtin.List.listItems (.ref s.heap.objs.size); Builtin.List.listUpdate (.ref s.heap.objs.size) (fun _ => #[]); letGo old.toList.reverse; Builtin.List.listExtendWith (.ref s.heap.objs.size) (.str x t) .none) _ _ _
  refine wpAny_bind ?_
  unfold Builtin.List.listItems
  refine wpAny_bind (wpAny_seqItems hS rfl (wpAny_pure ?_))
  show wpAny _ _ (updateSeq s.heap.objs.size (fun _ => #[]) >>= fun _ => letGo (#[] : Array Value).toList.reverse >>= fun _ => Builtin.List.listExtendWith (.ref s.heap.objs.size) (.str x t) .none) _ _ _
  refine wpAny_bind (wpAny_updateSeq hS rfl ?_)
  have hS₂ := Heap.get?_update_self (Obj.mapSeq (fun _ => (#[] : Array Value))) hS rfl
  refine wpAny_bind (wpAny_letGo ?_)
  refine ext_str (A := A.in1) (s := { s with heap := (s.heap.push { cls := .type "list", data := .seq #[] }).update s.heap.objs.size (Obj.mapSeq (fun _ => (#[] : Array Value))) }) hh x t s.heap.objs.size .none _ hn hS₂ fun h' acc' c' hk hS' hacc => ?_
  refine ⟨rfl, hQ h' acc' c' (fun b o e => hk b o (Nat.ne_of_lt (Heap.lt_size e)) ?_) hS' hacc⟩
  exact (Heap.get?_update_other _ _ (Nat.ne_of_gt (Heap.lt_size e))).trans (Heap.get?_push_of_some _ e)
end
/-- the signs of a text, one by one -/
def Signs (vs : List Value) (txt : List Nat) : Prop := StrsAre vs (txt.map fun c => strOf [c])
def tokSigns : Nat → List Nat → List Value
  | _, [] => []
  | n, c :: r => .str (strOf [c]) n :: tokSigns (n + 1) r
theorem tokSigns_get : ∀ (txt : List Nat) (n j : Nat), (tokSigns n txt)[j]? = txt[j]?.map fun c => .str (strOf [c]) (n + j)
  | [], _, _ => rfl
  | c :: r, n, 0 => rfl
  | c :: r, n, j + 1 => by
    show (tokSigns (n + 1) r)[j]? = _
    rw [tokSigns_get r (n + 1) j, List.getElem?_cons_succ, show n + 1 + j = n + (j + 1) by omega]
theorem tokSigns_length (txt : List Nat) (n : Nat) : (tokSigns n txt).length = txt.length := by
  induction txt generalizing n with
  | nil => rfl
  | cons c r ih => show (tokSigns (n + 1) r).length + 1 = _; rw [ih]; rfl
theorem tokSigns_are (txt : List Nat) (n : Nat) : Signs (tokSigns n txt) txt := by
  induction txt generalizing n with
  | nil => exact .nil
  | cons c r ih => exact .cons _ _ (ih (n + 1))
theorem items_tok {acc : Array Value} {txt : List Nat} {n : Nat} (h : ItemsOf (TokAt (strOf txt) n) acc (strOf txt).cps.size) : acc = (tokSigns n txt).toArray := by
  have hs : (strOf txt).cps.size = txt.length := rfl
  apply Array.ext'
  refine List.ext_getElem? fun j => ?_
  rw [tokSigns_get]
  cases hj : acc.toList[j]? with
  | none =>
    have : acc.size ≤ j := by simpa using hj
    rw [h.1, hs] at this
    rw [List.getElem?_eq_none this]; rfl
  | some v =>
    obtain ⟨c, hc, rfl⟩ := h.2 j v (by simpa using hj)
    have : txt[j]? = some c := by simpa [strOf] using hc
    rw [this]; rfl
theorem list_signsT {prog : Program} {w : World} {A : Around} {E : Value → Shared → Prop} {s : Shared} {h₀ : Heap} {L : Addr} {m : Str → Option Value} {news : List (Addr × Obj)} {txt : List Nat} {t : Tok} {Q : Value → Shared → Prop} (hh : A.handled = none)
    (F : Fr h₀ L s.heap m) (N : News h₀ L s.heap news) (hn : txt.length ≤ 100)
    (h : ∀ D c h', Fr h₀ L h' m → News h₀ L h' ((D, listOf (tokSigns s.toks txt).toArray c) :: news) → (∀ q ∈ news, q.1 ≠ D) → Q (.ref D) { s with heap := h', toks := s.toks + txt.length }) :
    wpAny (model prog w) A (call (.type "list") [.str (strOf txt) t]) Q E s :=
  list_tok hh (strOf txt) t (by show txt.length ≤ 1000; omega) fun h' acc' c' hk hS hacc => by
    rw [items_tok hacc] at hS
    exact h _ c' h' (fr_stays F hk) (news_new F N hk hS (Heap.get?_none_of_le (Nat.le_refl _))) (ne_of_new N (Heap.get?_none_of_le (Nat.le_refl _)))
theorem list_signs {prog : Program} {w : World} {A : Around} {E : Value → Shared → Prop} {s : Shared} {h₀ : Heap} {L : Addr} {m : Str → Option Value} {news : List (Addr × Obj)} {txt : List Nat} {t : Tok} {Q : Value → Shared → Prop} (hh : A.handled = none)
    (F : Fr h₀ L s.heap m) (N : News h₀ L s.heap news) (hn : txt.length ≤ 100)
    (h : ∀ D c h' tk, Fr h₀ L h' m → News h₀ L h' ((D, listOf (tokSigns s.toks txt).toArray c) :: news) → (∀ q ∈ news, q.1 ≠ D) → Q (.ref D) { s with heap := h', toks := tk }) :
    wpAny (model prog w) A (call (.type "list") [.str (strOf txt) t]) Q E s :=
  list_signsT hh F N hn fun D c h' a b d => h D c h' _ a b d
theorem toks_of {txt : List Nat} {n : Nat} (hn : 1 ≤ n) : ∀ y t, Value.str y t ∈ tokSigns n txt → t ≠ 0 ∧ y = strOf [txt.getD (t - n) 0] := by
  intro y t hm
  obtain ⟨j, hj⟩ := List.mem_iff_getElem?.mp hm
  rw [tokSigns_get] at hj
  cases hc : txt[j]? with
  | none => rw [hc] at hj; cases hj
  | some c =>
    rw [hc] at hj
    obtain ⟨rfl, rfl⟩ : strOf [c] = y ∧ n + j = t := by simpa using hj
    refine ⟨Nat.ne_of_gt (Nat.lt_of_lt_of_le hn (Nat.le_add_right _ _)), ?_⟩
    rw [show n + j - n = j by omega, List.getD_eq_getElem?_getD, hc]; rfl
theorem glue_fold : ∀ (r acc : List Nat), (r.map fun c => strOf [c]).foldl (fun a p => a ++ (Str.ofString "").cps ++ p.cps) acc.toArray = (acc ++ r).toArray
  | [], acc => by rw [List.append_nil]; rfl
  | c :: r, acc => by
    have e : acc.toArray ++ (Str.ofString "").cps ++ (strOf [c]).cps = (acc ++ [c]).toArray := by
      rw [show (Str.ofString "").cps = #[] from rfl]; simp [strOf]
    rw [List.map_cons, List.foldl_cons, e, glue_fold r (acc ++ [c]), List.append_assoc]; rfl
theorem glue_signs : ∀ txt : List Nat, Txt.join (Str.ofString "") (txt.map fun c => strOf [c]) = strOf txt
  | [] => rfl
  | c :: r => by
    show (⟨(r.map fun c => strOf [c]).foldl (fun a p => a ++ (Str.ofString "").cps ++ p.cps) [c].toArray⟩ : Str) = _
    rw [glue_fold]; rfl
theorem sum_signs : ∀ txt : List Nat, ((txt.map fun c => strOf [c]).map (·.length)).sum = txt.length
  | [] => rfl
  | c :: r => by rw [List.map_cons, List.map_cons, List.sum_cons, sum_signs r]; show 1 + r.length = r.length + 1; omega
section
variable {prog : Program} {w : World} {A : Around} {E : Value → Shared → Prop} {s : Shared} {Q : Value → Shared → Prop}
theorem join_signs {D : Addr} {vs : List Value} {txt : List Nat} {t : Tok} {c : Nat} (hl : s.heap.get? D = some (listOf vs.toArray c)) (hi : Signs vs txt) (hn : txt.length ≤ 100)
    (h : ∀ t' k, Q (.str (strOf txt) t') { s with toks := k }) : wpAny (model prog w) A (call (.builtin "str.join") [.str (Str.ofString "") t, .ref D]) Q E s := by
  refine PyProof.Rows.join_list (PySem.IsL.isList (n := c) hl) hi ?_ fun t' k => by rw [glue_signs]; exact h t' k
  rw [sum_signs, List.length_map, show (Str.ofString "").length = 0 from rfl]; omega
theorem len_L {D : Addr} {vs : List Value} {c : Nat} (hl : s.heap.get? D = some (listOf vs.toArray c)) (hn : vs.length ≤ 1000) (h : ∀ t tk, Q (.int vs.length t) { s with toks := tk }) : wpAny (model prog w) A (call (.builtin "len") [.ref D]) Q E s :=
  Calls.call_len_list (PySem.IsL.isList (n := c) hl) (by rw [List.size_toArray]; omega) (by rw [List.size_toArray]; exact h _ _)
end

section
theorem mro_slice : mroOf (.type "slice") = pure [.type "slice", .type "object"] := by rw [mroOf_type]; kernel_rfl
theorem lookup_slice_new : typeLookup (.type "slice") "__new__" = pure (some (.builtin "slice.__new__")) := by rw [typeLookup_type, builtinLookup_eq_fast]; kernel_rfl
theorem slot_slice_init : Slot "slice" "__init__" "object.__init__" :=
  .of (owner := "object") (n := "__init__") (by rw [typeLookup_type, builtinLookup_eq_fast]; kernel_rfl) (by decide +kernel) (by decide +kernel) (by decide +kernel)
    (by first | exact .inl (by decide +kernel) | exact .inr (by decide +kernel)) (by rw [isSubtype_type]; kernel_rfl)
theorem called_slice : TypeCalled "slice" "slice.__new__" "object.__init__" :=
  ⟨by decide +kernel, by decide +kernel, ⟨_, _, mro_slice⟩, madeBy_type mro_slice lookup_slice_new (by decide +kernel), by decide +kernel, by rw [isSubtype_type]; kernel_rfl, slot_slice_init⟩
theorem typeCall_slice_2 (a b : Value) : checkTypeCall "slice" ⟨[a, b], []⟩ = pure () := by kernel_rfl
theorem newCall_slice_2 (a b : Value) : checkBuiltinCall "slice.__new__" ⟨[.type "slice", a, b], []⟩ = pure () := by kernel_rfl
theorem entry_slice_new : entryFor table "slice.__new__" = some Builtin.«slice.__new__» := entryFor_of_tree (by kernel_rfl)
theorem meets_slice_new (a b : Value) : Meets (Builtin.«slice.__new__» ⟨[.type "slice", a, b], []⟩) (fun _ R s => R (.ok (.ret (.ref s.heap.objs.size))) { s with heap := s.heap.push { cls := .type "slice", data := .fields #[a, b, .none] } }) :=
  .of_wp fun prog w A R s h => by
    obtain ⟨hp, g, d, tk, os⟩ := s
    have hsub := called_slice.sub
    wp_walk
    exact ⟨_, rfl, h⟩
theorem call_slice {prog : Program} {w : World} {A : Around} {E : Value → Shared → Prop} {s : Shared} {a b : Value} {Q : Value → Shared → Prop} {h₀ : Heap} {L : Addr} {m : Str → Option Value} {news : List (Addr × Obj)} (F : Fr h₀ L s.heap m) (N : News h₀ L s.heap news)
    (h : ∀ D h', Fr h₀ L h' m → News h₀ L h' ((D, { cls := .type "slice", data := .fields #[a, b, .none] }) :: news) → (∀ q ∈ news, q.1 ≠ D) → Q (.ref D) { s with heap := h' }) : wpAny (model prog w) A (call (.type "slice") [a, b]) Q E s := by
  refine callType_new called_slice (by decide) (typeCall_slice_2 _ _) (newCall_slice_2 _ _) (fun obj => PySem.F.args_object_init_3 obj _ _) entry_slice_new (meets_slice_new a b) ?_
  have hn : s.heap.get? s.heap.objs.size = none := Heap.get?_none_of_le (Nat.le_refl _)
  have hk : s.heap.StaysIn (s.heap.push { cls := .type "slice", data := .fields #[a, b, .none] }) := fun _ _ e => Heap.get?_push_of_some _ e
  exact ⟨⟨_, Heap.get?_push_size _ rfl, rfl⟩, h _ _ (fr_stays F hk) (news_new F N hk (Heap.get?_push_size _ rfl) hn) (ne_of_new N hn)⟩
end

theorem setup_ops : True := by
  k_with "call ref" => (k_here; (with_reducible show wpAny _ _ (call (Value.ref 63) _) _ _ _); k_dflt (refine' Tells.useI ?z1 ?z2 ?z3 ?z4 ?z5 ?z6 ?z7 ?z8 ?z9 ?_; (case z2 => assumption); (case z3 => k_asm); (case z4 => assumption); (case z5 => k_asm); (case z6 => assumption); (case z7 => exact rfl); (case z1 => exact (add_tells _ _ _ _ _ _ _ _)); (case z8 => exact trivial); (case z9 => exact (Room.down (by assumption) rfl))); intro t' h' tk' F' N'; (try dsimp only); (try k_sweep))
  k_with "call ref" => (k_here; (with_reducible show wpAny _ _ (call (Value.ref 91) _) _ _ _); k_dflt (refine' Tells.useI ?z10 ?z11 ?z12 ?z13 ?z14 ?z15 ?z16 ?z17 ?z18 ?_; (case z11 => assumption); (case z12 => k_asm); (case z13 => assumption); (case z14 => k_asm); (case z15 => assumption); (case z16 => exact rfl); (case z10 => exact (sub_tells _ _ _ _ _ _ _ _)); (case z17 => exact trivial); (case z18 => exact (Room.down (by assumption) rfl))); intro t' h' tk' F' N'; (try dsimp only); (try k_sweep))
  k_with "call ref" => (k_here; (with_reducible show wpAny _ _ (call (Value.ref 84) _) _ _ _); k_dflt (refine' Tells.useI ?z19 ?z20 ?z21 ?z22 ?z23 ?z24 ?z25 ?z26 ?z27 ?_; (case z20 => assumption); (case z21 => k_asm); (case z22 => assumption); (case z23 => k_asm); (case z24 => assumption); (case z25 => exact rfl); (case z19 => exact (mul_tells _ _ _ _ _ _ _ _ (by first | assumption | omega) (by first | assumption | omega))); (case z26 => exact trivial); (case z27 => exact (Room.down (by assumption) rfl))); intro t' h' tk' F' N'; (try dsimp only); (try k_sweep))
  k_with "call ref" => (k_here; (with_reducible show wpAny _ _ (call (Value.ref 70) _) _ _ _); k_dflt (refine' Tells.useI ?z28 ?z29 ?z30 ?z31 ?z32 ?z33 ?z34 ?z35 ?z36 ?_; (case z29 => assumption); (case z30 => k_asm); (case z31 => assumption); (case z32 => k_asm); (case z33 => assumption); (case z34 => exact rfl); (case z28 => exact (floordiv_tells _ _ _ _ _ _ _ _ (by first | assumption | omega))); (case z35 => exact trivial); (case z36 => exact (Room.down (by assumption) rfl))); intro t' h' tk' F' N'; (try dsimp only); (try k_sweep))
  k_with "call ref" => (k_here; (with_reducible show wpAny _ _ (call (Value.ref 77) _) _ _ _); k_dflt (refine' Tells.useI ?z37 ?z38 ?z39 ?z40 ?z41 ?z42 ?z43 ?z44 ?z45 ?_; (case z38 => assumption); (case z39 => k_asm); (case z40 => assumption); (case z41 => k_asm); (case z42 => assumption); (case z43 => exact rfl); (case z37 => exact (mod_tells _ _ _ _ _ _ _ _ (by first | assumption | omega))); (case z44 => exact trivial); (case z45 => exact (Room.down (by assumption) rfl))); intro t' h' tk' F' N'; (try dsimp only); (try k_sweep))
  trivial
theorem setup_lst : True := by
  k_with "call builtin:len" => (k_here; (with_reducible show wpAny _ _ (call (Value.builtin "len") [Value.ref _]) _ _ _); k_dflt (refine' len_L ?z1 ?z2 ?_; (case z1 => exact (News.get (by k_asm) (by news_mem))); (case z2 => first | assumption | omega)); intro t' tk'; (try dsimp only))
  k_with "call type:slice" => (k_here; (with_reducible show wpAny _ _ (call (Value.type "slice") [_, _]) _ _ _); k_dflt (refine' call_slice ?z3 ?z4 ?_; (case z3 => k_asm); (case z4 => k_asm)); intro D' h' F' N' ne'; (try dsimp only))
  trivial
structure BdS where
  st : Lay
  vs : List Value
  n : Nat
  sg : List Value
  k : Nat
structure BdI (txt : List Nat) (ns : List Int) (i : Nat) (c : BdS) : Prop where
  st : c.st = (ns.take i).foldl lstep ⟨txt, 128, -1⟩
  vs : StrsAre c.vs ((txt :: lays ⟨txt, 128, -1⟩ (ns.take i)).map strOf)
  sg : Signs c.sg c.st.txt
  len : c.st.txt.length = txt.length + i
  i8 : i ≤ ns.length
  p0 : -1 ≤ c.st.pos
  p1 : c.st.pos ≤ 20
  c0 : 0 ≤ c.st.code
  c1 : c.st.code ≤ 200 + 2100 * i
theorem for_listZ {prog : Program} {w : World} {A : Around} {E : Value → Shared → Prop} {Q : Flow → Shared → Prop} {s : Shared} {env : Env} {h₀ : Heap} {x : Str} {body : List Stmt} {σ : Type} {l : Addr} {vs : List Value} {m₀ : Str → Option Value} {news : List (Addr × Obj)} (hh : A.handled = none)
    (hl : s.heap.IsList l vs.toArray) (hlL : l ≠ env.locals) (F : Fr h₀ env.locals s.heap m₀) (N : News h₀ env.locals s.heap news)
    (Inv : Nat → σ → Prop) (led : σ → List (Addr × Obj)) (loc : σ → List (Str × Dv)) (adr : List Addr) (hadr : ∀ c, (led c).map (·.1) = adr) (c₀ : σ)
    (hm : HasD m₀ (loc c₀)) (hn : ∀ p ∈ led c₀, p ∈ news) (hI : Inv 0 c₀)
    (turn : ∀ (i : Nat) (v : Value) (c : σ) (u : Str → Option Value) (T : Nat → Tok) (h : Heap) (tk : Nat) (own : List (Addr × Obj)) (Z : Flow → Shared → Prop), (∀ v s₃, Q (.ret v) s₃ → Z (.ret v) s₃) →
      (∀ c' h' tk' m' news', Fr h₀ env.locals h' m' → News h₀ env.locals h' news' → (∀ p ∈ led c', p ∈ news') → (∀ p ∈ own, p ∈ news') → HasD m' (loc c') → Inv (i + 1) c' → Z .next { s with heap := h', toks := tk' }) →
      vs[i]? = some v → Inv i c → (∀ p ∈ own, ∀ a ∈ adr, a ≠ l → p.1 ≠ a) →
      Fr h₀ env.locals h (ov ((x, v) :: vals (loc c) T) u) → News h₀ env.locals h (led c ++ own) →
      wpAny (model prog w) A (execs body env) Z E { s with heap := h, toks := tk })
    (done : ∀ (c : σ) (u : Str → Option Value) (T : Nat → Tok) (h : Heap) (tk : Nat), Inv vs.length c → Fr h₀ env.locals h (ov (vals (loc c) T) u) → News h₀ env.locals h (led c) → Q .next { s with heap := h, toks := tk }) :
    wpAny (model prog w) A (pyIter (.ref l)) (fun it s₂ => LoopAtV prog w A h₀ env x body Q E it s₂) E s :=
  for_list hh hl hlL F N Inv led loc adr hadr c₀ hm hn hI (fun i v c u T h tk own a b cc d e => turn i v c u T h tk own _ (fun _ _ q => q) (fun c' h' tk' m' news' f n a b c d => ⟨c', h', tk', m', news', rfl, f, n, a, b, c, d⟩) a b cc d e) done
/-- a bound that the arithmetic is not to see -/
def NB (n : Int) : Prop := n.natAbs < 100000
/-- the numbers of a turn -/
structure BdN (ps cd N : Int) (k : Nat) : Prop where
  N0 : 0 ≤ N
  N1 : N < 2000
  l0 : 0 ≤ (-(ps + (N + 1))).fmod ((k : Int) + 1)
  l1 : (-(ps + (N + 1))).fmod ((k : Int) + 1) < (k : Int) + 1
  dm : (-(ps + (N + 1))).fdiv ((k : Int) + 1) * ((k : Int) + 1) + (-(ps + (N + 1))).fmod ((k : Int) + 1) = -(ps + (N + 1))
  db : NB ((-(ps + (N + 1))).fdiv ((k : Int) + 1))
  kb : NB ((k : Int) + 1)
  m0 : 0 ≤ (ps + (N + 1)).fmod ((k : Int) + 1)
  m1 : (ps + (N + 1)).fmod ((k : Int) + 1) ≤ k
  d0 : 0 ≤ cd + (ps + (N + 1)).fdiv ((k : Int) + 1)
  d1 : cd + (ps + (N + 1)).fdiv ((k : Int) + 1) ≤ cd + 2100
theorem bd_num {ps cd N : Int} {k : Nat} (hN : 0 ≤ N ∧ N < 2000) (hp : -1 ≤ ps ∧ ps ≤ 20) (hc : 0 ≤ cd) (hk : k ≤ 20) : BdN ps cd N k := by
  have hq := fdiv_bounds (a := ps + (N + 1)) (b := (k : Int) + 1) (by omega) (by omega)
  have h1 := Int.fmod_nonneg_of_pos (-(ps + (N + 1))) (b := (k : Int) + 1) (by omega)
  have h2 := Int.fmod_lt_of_pos (-(ps + (N + 1))) (b := (k : Int) + 1) (by omega)
  have h3 := Int.fmod_nonneg_of_pos (ps + (N + 1)) (b := (k : Int) + 1) (by omega)
  have h4 := Int.fmod_lt_of_pos (ps + (N + 1)) (b := (k : Int) + 1) (by omega)
  have h5 := Int.mul_fdiv_add_fmod (-(ps + (N + 1))) ((k : Int) + 1)
  have h6 : ((-(ps + (N + 1))).fdiv ((k : Int) + 1)).natAbs < 100000 := by
    have e : ((k : Int) + 1) * (-(ps + (N + 1))).fdiv ((k : Int) + 1) = -(ps + (N + 1)) - (-(ps + (N + 1))).fmod ((k : Int) + 1) := by omega
    have := Int.natAbs_mul ((k : Int) + 1) ((-(ps + (N + 1))).fdiv ((k : Int) + 1))
    have h7 : 1 * ((-(ps + (N + 1))).fdiv ((k : Int) + 1)).natAbs ≤ ((k : Int) + 1).natAbs * ((-(ps + (N + 1))).fdiv ((k : Int) + 1)).natAbs := Nat.mul_le_mul_right _ (by omega)
    rw [e] at this
    omega
  refine ⟨hN.1, hN.2, h1, h2, ?_, h6, (by unfold NB; omega), h3, by omega, by omega, by omega⟩
  rw [Int.mul_comm]; exact h5
theorem are_take {vs : List Value} {ys : List Str} (h : StrsAre vs ys) : ∀ k, StrsAre (vs.take k) (ys.take k) := by
  induction h with
  | nil => intro k; cases k <;> exact .nil
  | cons y t _ ih => intro k; cases k with
    | zero => exact .nil
    | succ k => exact .cons y t (ih k)
theorem are_drop {vs : List Value} {ys : List Str} (h : StrsAre vs ys) : ∀ k, StrsAre (vs.drop k) (ys.drop k) := by
  induction h with
  | nil => intro k; cases k <;> exact .nil
  | cons y t r ih => intro k; cases k with
    | zero => exact .cons y t r
    | succ k => exact ih k
theorem are_append {vs ws : List Value} {ys zs : List Str} (h : StrsAre vs ys) (g : StrsAre ws zs) : StrsAre (vs ++ ws) (ys ++ zs) := by
  induction h with
  | nil => exact g
  | cons y t _ ih => exact .cons y t ih
theorem signs_insert {vs : List Value} {txt : List Nat} (h : Signs vs txt) (k x : Nat) (t : Tok) : Signs (vs.take k ++ [.str (strOf [x]) t] ++ vs.drop k) (txt.take k ++ [x] ++ txt.drop k) := by
  unfold Signs at *
  rw [List.map_append, List.map_append, List.map_take, List.map_drop]
  exact are_append (are_append (are_take h k) (.cons _ _ .nil)) (are_drop h k)
theorem bd_step {st : Lay} {N0 : Int} {k : Nat} (hk : k = st.txt.length) : lstep st N0 = ⟨st.txt.take ((st.pos + (N0 + 1)).fmod (↑k + 1)).toNat ++ [(st.code + (st.pos + (N0 + 1)).fdiv (↑k + 1)).toNat] ++ st.txt.drop ((st.pos + (N0 + 1)).fmod (↑k + 1)).toNat, st.code + (st.pos + (N0 + 1)).fdiv (↑k + 1), (st.pos + (N0 + 1)).fmod (↑k + 1)⟩ := by
  subst hk; rfl
theorem bd_next {txt : List Nat} {ns : List Int} {i : Nat} {c : BdS} {N0 : Int} {t : Tok} {sg : List Value} {n k : Nat} (I : BdI txt ns i c) (hn0 : ns[i]? = some N0) (hs : Signs sg (lstep c.st N0).txt)
    (hn : BdN c.st.pos c.st.code N0 c.sg.length) (hl : ns.length ≤ 8) (ht : txt.length ≤ 8) :
    BdI txt ns (i + 1) ⟨lstep c.st N0, c.vs ++ [.str (strOf (lstep c.st N0).txt) t], n, sg, k⟩ := by
  have htk : ns.take (i + 1) = ns.take i ++ [N0] := by rw [List.take_add_one, hn0]; rfl
  have hil' : i < ns.length := (List.getElem?_eq_some_iff.mp hn0).1
  have hlen := I.sg.length
  rw [List.length_map] at hlen
  have hL := I.len
  have hst := bd_step (st := c.st) (N0 := N0) hlen
  have hp : (lstep c.st N0).pos = (c.st.pos + (N0 + 1)).fmod (↑c.sg.length + 1) := by rw [hst]
  have hcd : (lstep c.st N0).code = c.st.code + (c.st.pos + (N0 + 1)).fdiv (↑c.sg.length + 1) := by rw [hst]
  have h1 := hn.m0
  have h2 := hn.m1
  have h3 := hn.d0
  have h4 := hn.d1
  have h5 := I.c1
  refine ⟨?_, ?_, hs, ?_, hil', ?_, ?_, ?_, ?_⟩
  · dsimp only; rw [htk, List.foldl_append, ← I.st]; rfl
  · dsimp only
    rw [htk, lays_append, ← I.st, ← List.cons_append, List.map_append]
    exact StrsAre_snoc I.vs _ _
  · dsimp only; rw [lstep_len]; omega
  · dsimp only; rw [hp]; omega
  · dsimp only; rw [hp]; omega
  · dsimp only; rw [hcd]; exact h3
  · dsimp only; rw [hcd]; omega
theorem deeds_tells (w : World) (mean : ExcName → Option Value) (mg mb : Str → Option Value) (txt : List Nat) (ns : List Int) (l : Addr) (t1 : Tok)
    (hns : ∀ n ∈ ns, 0 ≤ n ∧ n < 2000) (hl : ns.length ≤ 8) (ht : txt.length ≤ 8) :
    Tells w mean mg mb 2 161 [.str (strOf txt) t1, .ref l] (fun h => IntList h l ns)
      (fun v h h' => ∃ a o, v = .ref a ∧ h.get? a = none ∧ h'.get? a = some o ∧ ∃ vs n, o = listOf vs.toArray n ∧ StrsAre vs ((txt :: lays ⟨txt, 128, -1⟩ ns).map strOf)) := by
  unfold Tells
  k_fill
  intro dp un gd outer base s Q E B X T hpre hroom hret
  obtain ⟨lv, hll, hli⟩ := hpre
  refine enter [("base", .str (strOf txt) t1), ("numbers", .ref l)] (by assumption) (by assumption) (by assumption) (Room.here (by assumption)) (by k_is) (by k_is) (by exact rfl) (by exact rfl) (by exact rfl) ?_ (by decide) (by exact rfl) (by exact rfl) (by exact rfl)
  intro L h₁ tk u F N
  k_fold
  k_extra "go"
  refine list_signs rfl F' N' (by omega) fun sl c8 h8 tk8 F8 N8 ne8 => ?_
  have sg8 := tokSigns_are txt tk'
  clear F' N'
  generalize tokSigns tk' txt = sg0 at *
  k_extra "go"
  rename News _ _ _ _ => N1
  refine name1 (fun p hp => N1 p (.tail _ hp)) ?_
  intro tl htl
  subst htl
  refine' For_invV s.heap (by rfl) (by rfl) ?_ (by intro _; rfl) (by passes_own)
  k_extra "go"
  refine for_listZ (σ := BdS) (l := l) (vs := lv) rfl (hll.at fun o e => Fr.keep (by assumption) _ _ e) (base_ne (by assumption) hll) (by assumption) N1
    (BdI txt ns) (fun c => [(sl, listOf c.sg.toArray c.k), (tl, listOf c.vs.toArray c.n)]) (fun c => [("texts", .r tl), ("signs", .r sl), ("code", .i c.st.code), ("place", .i c.st.pos)]) [sl, tl] (fun _ => rfl)
    ⟨⟨txt, 128, -1⟩, [.str (strOf txt) t1], 0, sg0, c8⟩ (by k_extra "has") (fun p hp => hp) ⟨rfl, .cons _ _ .nil, sg8, rfl, Nat.zero_le _, by dsimp only; decide, by dsimp only; decide, by dsimp only; decide, by dsimp only; decide⟩ ?_ ?_
  · intro i v c u TT h tk own Z ZR ZN hv hI hoff F9 N9
    obtain ⟨N0, tn, hn0, rfl⟩ := ints_at hli hv
    have hlen := hI.sg.length
    rw [List.length_map] at hlen
    have hil' : i < ns.length := (List.getElem?_eq_some_iff.mp hn0).1
    have hL := hI.len
    have hn := bd_num (ps := c.st.pos) (cd := c.st.code) (k := c.sg.length) (hns N0 (List.mem_of_getElem? hn0)) ⟨hI.p0, hI.p1⟩ hI.c0 (by omega)
    have hn1 := hn.N0
    have hn2 := hn.N1
    have hl0 := hn.l0
    have hl1 := hn.l1
    have hdm := hn.dm
    have hdb := hn.db
    have hkb := hn.kb
    have hm0 := hn.m0
    have hm1 := hn.m1
    have hd0 := hn.d0
    have hd1 := hn.d1
    have hc1 := hI.c1
    have hI := Hide.mk hI
    have hk1 : c.sg.length ≤ 20 := by omega
    have hsl : sl ≠ l := fun q => by
      obtain ⟨o, ho, _⟩ := hll
      have := N9.fresh (List.mem_append_left _ (.head _))
      rw [q, ho] at this; cases this
    have htll : tl ≠ l := fun q => by
      obtain ⟨o, ho, _⟩ := hll
      have := N9.fresh (List.mem_append_left _ (.tail _ (.head _)))
      rw [q, ho] at this; cases this
    have o1 : ∀ p ∈ own, p.1 ≠ tl := fun p hp => hoff p hp tl (.tail _ (.head _)) htll
    have o2 : ∀ p ∈ own, p.1 ≠ sl := fun p hp => hoff p hp sl (.head _) hsl
    have htlsl : tl ≠ sl := ne8 _ (.head _)
    have hn := Hide.mk hn
    clear hns hoff
    dsimp only [vals, Dv.v, List.cons_append, List.nil_append] at F9 N9
    clear N1
    k_extra "go"
    · exact absurd hdm (by assumption)
    rename_i l9 h9 F9 N9 lt9
    have n1 : l9 ≠ sl := Nat.ne_of_gt lt9.2.1
    have n2 : D' ≠ sl := fun q => ne' _ (.head _) q.symm
    have n3 : l9 ≠ tl := Nat.ne_of_gt lt9.2.2.1
    have n4 : D' ≠ tl := fun q => ne' _ (.tail _ (.head _)) q.symm
    refine TellsM.use (setitem_tells _ _ _ _ c.sg [.str (strOf [(c.st.code + (c.st.pos + (N0 + 1)).fdiv (↑c.sg.length + 1)).toNat]) tk'] sl D' l9 0 ((c.st.pos + (N0 + 1)).fmod (↑c.sg.length + 1)) t' t' n1.symm hm0 hm1 (by omega) (Nat.le_of_ble_eq_true rfl))
      B F9 X N9 T (by exact rfl) (.tail n1 (.tail n2 (.head (List.forall_mem_cons.mpr ⟨htlsl, o2⟩)))) ⟨⟨_, N9.get (.tail _ (.head _)), rfl, rfl⟩, N9.get (.head _)⟩ (Room.down (by assumption) rfl) ?_
    intro n9 h10 tk10 F10 N10
    clear F9 N9 lt9 ne'
    k_extra "go"
    have hs9 := signs_insert hI.out.sg ((c.st.pos + (N0 + 1)).fmod (↑c.sg.length + 1)).toNat (c.st.code + (c.st.pos + (N0 + 1)).fdiv (↑c.sg.length + 1)).toNat tk'
    have hst := bd_step (st := c.st) (N0 := N0) hlen
    have htx : (lstep c.st N0).txt = c.st.txt.take ((c.st.pos + (N0 + 1)).fmod (↑c.sg.length + 1)).toNat ++ [(c.st.code + (c.st.pos + (N0 + 1)).fdiv (↑c.sg.length + 1)).toNat] ++ c.st.txt.drop ((c.st.pos + (N0 + 1)).fmod (↑c.sg.length + 1)).toNat := by rw [hst]
    rw [← htx] at hs9
    have hll9 := lstep_len c.st N0
    have hvl : c.vs.length < 100000 := by
      have := hI.out.vs.length
      simp only [List.map_cons, List.length_cons, List.length_map, lays_length, List.length_take] at this
      omega
    refine join_signs (N10.get (.tail _ (.tail _ (.head _)))) hs9 (by omega) fun t11 tk11 => ?_
    k_extra "go"
    have n5 : sl ≠ tl := htlsl.symm
    refine append_L (s := { s with heap := h10, toks := tk11 }) (vs := c.vs) (n := c.n) F10 N10 (by exact .tail n3 (.tail n4 (.tail n5 (.head o1)))) hvl ?_
    intro h12 F12 N12
    clear F10 N10
    k_extra "go"
    refine ZN _ _ _ _ _ F12 N12 ?_ ?_ ?_ (bd_next (t := t11) (n := c.n + 1) (k := n9) hI.out hn0 hs9 hn.out hl ht)
    · intro p hp
      rcases List.mem_cons.mp hp with rfl | hp
      · exact .tail _ (.tail _ (.head _))
      · rw [List.mem_singleton.mp hp]; exact .tail _ (.tail _ (.tail _ (.head _)))
    · exact fun p hp => .tail _ (.tail _ (.tail _ (.tail _ hp)))
    · rw [hst]; k_extra "has"
  · intro c u TT h tk hI F9 N9
    dsimp only [vals, Dv.v] at F9 N9
    clear N1
    k_extra "go"
    show Q (Value.ref _) _
    refine hret _ _ _ F9.keep ⟨_, _, rfl, N9.fresh (.tail _ (.head _)), N9.get (.tail _ (.head _)), c.vs, c.n, rfl, ?_⟩
    have := hI.vs
    rwa [List.take_of_length_le (by rw [hli.length]; exact Nat.le_refl _)] at this

/-! the last sign laid is the greatest, at its last place -/
/-- all signs are at most the code, and those behind the place are less -/
structure Top1 (st : Lay) : Prop where
  le : ∀ c ∈ st.txt, (c : Int) ≤ st.code
  lt : ∀ (j : Nat) (c : Nat), st.pos < j → st.txt[j]? = some c → (c : Int) < st.code
  p0 : -1 ≤ st.pos
  c0 : 0 ≤ st.code
theorem top_start {txt : List Nat} (h : ∀ c ∈ txt, c < 128) : Top1 ⟨txt, 128, -1⟩ :=
  ⟨fun c hc => by have := h c hc; dsimp only; omega, fun j c _ hj => by have := h c (List.mem_of_getElem? hj); dsimp only; omega, by dsimp only; decide, by dsimp only; decide⟩
/-- what a step lays -/
structure Laid1 (st : Lay) (N : Int) (p c : Nat) : Prop where
  txt : (lstep st N).txt = st.txt.take p ++ [c] ++ st.txt.drop p
  pos : (lstep st N).pos = p
  code : (lstep st N).code = c
  le : p ≤ st.txt.length
  num : ((c : Int) - st.code) * ((st.txt.length : Int) + 1) + p - (st.pos + 1) = N
  up : st.code ≤ c
  gt : (c : Int) = st.code → st.pos < p
theorem laid_is {st : Lay} {N : Int} (hN : 0 ≤ N) (hp : -1 ≤ st.pos) (hc : 0 ≤ st.code) : ∃ p c, Laid1 st N p c := by
  have hq := fdiv_bounds (a := st.pos + (N + 1)) (b := (st.txt.length : Int) + 1) (by omega) (by omega)
  have h3 := Int.fmod_nonneg_of_pos (st.pos + (N + 1)) (b := (st.txt.length : Int) + 1) (by omega)
  have h4 := Int.fmod_lt_of_pos (st.pos + (N + 1)) (b := (st.txt.length : Int) + 1) (by omega)
  have h5 := Int.mul_fdiv_add_fmod (st.pos + (N + 1)) ((st.txt.length : Int) + 1)
  have e0 : (lstep st N).pos = (st.pos + (N + 1)).fmod ((st.txt.length : Int) + 1) := rfl
  have e1 : (lstep st N).code = st.code + (st.pos + (N + 1)).fdiv ((st.txt.length : Int) + 1) := rfl
  refine ⟨((st.pos + (N + 1)).fmod ((st.txt.length : Int) + 1)).toNat, (st.code + (st.pos + (N + 1)).fdiv ((st.txt.length : Int) + 1)).toNat, rfl, ?_, ?_, by omega, ?_, by omega, fun e => ?_⟩
  · rw [e0]; omega
  · rw [e1]; omega
  · rw [Int.toNat_of_nonneg (by omega), Int.toNat_of_nonneg h3]
    rw [show st.code + (st.pos + (N + 1)).fdiv ((st.txt.length : Int) + 1) - st.code = (st.pos + (N + 1)).fdiv ((st.txt.length : Int) + 1) by omega, Int.mul_comm]
    omega
  · have hz : (st.pos + (N + 1)).fdiv ((st.txt.length : Int) + 1) = 0 := by omega
    rw [hz] at h5
    omega
theorem top_next {st : Lay} {N : Int} {p c : Nat} (T : Top1 st) (h : Laid1 st N p c) : Top1 (lstep st N) := by
  have hle : ∀ x ∈ st.txt, (x : Int) ≤ c := fun x hx => Int.le_trans (T.le x hx) h.up
  refine ⟨?_, ?_, by rw [h.pos]; omega, by rw [h.code]; omega⟩
  · intro x hx
    rw [h.txt] at hx
    rw [h.code]
    simp only [List.mem_append, List.mem_cons, List.not_mem_nil, or_false] at hx
    rcases hx with (hx | rfl) | hx
    · exact hle x (List.mem_of_mem_take hx)
    · omega
    · exact hle x (List.mem_of_mem_drop hx)
  · intro j x hj hx
    rw [h.pos] at hj
    rw [h.txt, List.append_assoc, List.getElem?_append_right (by rw [List.length_take]; omega), List.length_take, Nat.min_eq_left h.le] at hx
    obtain ⟨k, hk⟩ : ∃ k, j - p = k + 1 := ⟨j - p - 1, by omega⟩
    rw [hk, List.singleton_append, List.getElem?_cons_succ, List.getElem?_drop] at hx
    rw [h.code]
    by_cases e : (c : Int) = st.code
    · rw [e]; exact T.lt (p + k) x (by have := h.gt e; omega) hx
    · have h1 := T.le x (List.mem_of_getElem? hx)
      have h2 := h.up
      omega
/-- the text that a step leaves -/
structure Seen (old new : List Nat) (p c : Nat) : Prop where
  txt : new = old.take p ++ [c] ++ old.drop p
  le : p ≤ old.length
  max : ∀ x ∈ new, x ≤ c
  beh : ∀ j, p < j → new[j]? ≠ some c
theorem seen_of {st : Lay} {N : Int} {p c : Nat} (T : Top1 st) (h : Laid1 st N p c) : Seen st.txt (lstep st N).txt p c := by
  have T' := top_next T h
  refine ⟨h.txt, h.le, fun x hx => ?_, fun j hj e => ?_⟩
  · have := T'.le x hx; rw [h.code] at this; omega
  · have := T'.lt j c (by rw [h.pos]; omega) e; rw [h.code] at this; omega
theorem seen_at {old new : List Nat} {p c : Nat} (h : Seen old new p c) : new[p]? = some c := by
  rw [h.txt, List.append_assoc, List.getElem?_append_right (by rw [List.length_take]; omega), List.length_take, Nat.min_eq_left h.le]; simp
theorem seen_len {old new : List Nat} {p c : Nat} (h : Seen old new p c) : new.length = old.length + 1 := by
  rw [h.txt]; simp; have := h.le; omega
theorem seen_erase {old new : List Nat} {p c : Nat} (h : Seen old new p c) : new.eraseIdx p = old := by
  have hl : (old.take p).length = p := by rw [List.length_take]; exact Nat.min_eq_left h.le
  rw [h.txt, List.append_assoc, List.eraseIdx_append_of_length_le (by omega), hl, Nat.sub_self]
  simp
theorem seen_rev {old new : List Nat} {p c k : Nat} (h : Seen old new p c) (h1 : new.reverse[k]? = some c) (h2 : ∀ j, j < k → new.reverse[j]? ≠ some c) : k = new.length - 1 - p := by
  have hl := seen_len h
  have hle := h.le
  have hk : k < new.length := by
    have := (List.getElem?_eq_some_iff.mp h1).1; rw [List.length_reverse] at this; exact this
  rw [List.getElem?_reverse hk] at h1
  have hp : new.length - 1 - (new.length - 1 - p) = p := by omega
  by_cases hlt : k < new.length - 1 - p
  · exact absurd h1 (h.beh _ (by omega))
  · by_cases hgt : new.length - 1 - p < k
    · exact absurd (by rw [List.getElem?_reverse (by omega), hp]; exact seen_at h) (h2 _ hgt)
    · omega

/-! max of signs -/
section
variable {prog : Program} {w : World} {A : Around} {E : Value → Shared → Prop} {s : Shared}
theorem best_is (g : Nat → Nat) : ∀ k, argBest (fun i j => decide (g j < g i)) k ≤ k ∧ ∀ j, j ≤ k → g j ≤ g (argBest (fun i j => decide (g j < g i)) k)
  | 0 => ⟨Nat.le_refl _, fun j hj => by rw [Nat.le_zero.mp hj]; exact Nat.le_refl _⟩
  | k + 1 => by
    have ih := best_is g k
    unfold argBest
    by_cases h : g (argBest (fun i j => decide (g j < g i)) k) < g (k + 1)
    · rw [if_pos (by simpa using h)]
      refine ⟨Nat.le_refl _, fun j hj => ?_⟩
      by_cases e : j = k + 1
      · rw [e]; exact Nat.le_refl _
      · exact Nat.le_of_lt (Nat.lt_of_le_of_lt (ih.2 j (by omega)) h)
    · rw [if_neg (by simpa using h)]
      refine ⟨Nat.le_succ_of_le ih.1, fun j hj => ?_⟩
      by_cases e : j = k + 1
      · rw [e]; omega
      · exact ih.2 j (by omega)
theorem cmp_signs {P : Nat → Value → Prop} (g : Nat → Nat) (hg : ∀ i v, P i v → ∃ t, v = .str (strOf [g i]) t) : CmpOf prog w A .Gt P (fun i j => decide (g j < g i)) := fun i j vi vj s Q E hi hj h => by
  obtain ⟨t, rfl⟩ := hg i vi hi
  obtain ⟨u, rfl⟩ := hg j vj hj
  have e : decide (g j < g i) = decide ((strOf [g j]).cps.toList < (strOf [g i]).cps.toList) := by
    rw [decide_eq_decide]
    show _ ↔ [g j] < [g i]
    rw [List.cons_lt_cons_iff]
    simp
  replace h : Q (.bool (decide ((strOf [g j]).cps.toList < (strOf [g i]).cps.toList))) s := e ▸ h
  exact richCompare_gives (op := .Gt) (typeIs_str s _ t) (typeIs_str s _ u) F.slot_str_gt F.entry_str_gt (F.args_str_gt_2 _ _) (gives_str_gt _ _ t u) (fun x => nomatch x) h
/-- max of a list of signs -/
theorem max_signs {l : Addr} {vs : List Value} {txt : List Nat} {Q : Value → Shared → Prop} (hh : A.handled = none) (hl : s.heap.IsList l vs.toArray) (hs : Signs vs txt) (hne : txt ≠ [])
    (h : ∀ (k c : Nat) v h' tk, vs[k]? = some v → txt[k]? = some c → (∀ x ∈ txt, x ≤ c) → s.heap.StaysIn h' → Q v { s with heap := h', toks := tk }) :
    wpAny (model prog w) A (call (.builtin "max") [.ref l]) Q E s := by
  have hlen := hs.length
  rw [List.length_map] at hlen
  have hpos : 0 < vs.length := by rw [hlen]; exact List.length_pos_iff.mpr hne
  have hlt : l < s.heap.objs.size := by obtain ⟨_, e, _⟩ := hl; exact Heap.lt_size e
  have hg : ∀ (i : Nat) (v : Value), vs.toArray[i]? = some v → ∃ t, v = .str (strOf [txt.getD i 0]) t := fun i v hv => by
    obtain ⟨y, t, rfl, hy⟩ := hs.item i v (by simpa using hv)
    rw [List.getElem?_map] at hy
    obtain ⟨c, hc, rfl⟩ := Option.map_eq_some_iff.mp hy
    exact ⟨t, by rw [List.getD_eq_getElem?_getD, hc]; rfl⟩
  have hb := best_is (fun i => txt.getD i 0) (vs.length - 1)
  refine call_max_walk (wpAny_pyIter_list hl ⟨_, _, _, _, _, _, _, rfl, Walks.list (A := A.in1) hh s.heap.objs.size l (Nat.ne_of_lt hlt) vs.toArray, ⟨⟨_, Heap.get?_push_size _ rfl, rfl, rfl⟩, hl.push _⟩, ?_, by simpa using hpos, cmp_signs (fun i => txt.getD i 0) hg, fun v h' tk hP hk => ?_⟩)
  · intro b hb
    show b < (s.heap.push _).objs.size
    rw [Heap.size_push]
    simp only [List.mem_cons, List.not_mem_nil, or_false] at hb
    rcases hb with rfl | rfl
    · exact Nat.lt_succ_self _
    · exact Nat.lt_succ_of_lt hlt
  · rw [List.size_toArray] at hP
    generalize argBest (fun i j => decide (txt.getD j 0 < txt.getD i 0)) (vs.length - 1) = k at hP hb
    have hk' : k < txt.length := by omega
    have hkc : txt[k]? = some (txt.getD k 0) := by rw [List.getD_eq_getElem?_getD, List.getElem?_eq_getElem hk']; rfl
    refine h k (txt.getD k 0) v h' tk (by simpa using hP) hkc (fun x hx => ?_) (fun b o e => hk b o (fun hm => ?_) (Heap.get?_push_of_some _ e))
    · obtain ⟨j, hj, rfl⟩ := List.mem_iff_getElem.mp hx
      have := hb.2 j (by omega)
      rwa [show txt.getD j 0 = txt[j] by rw [List.getD_eq_getElem?_getD, List.getElem?_eq_getElem hj]; rfl] at this
    · rw [List.mem_singleton.mp hm] at e; exact Nat.lt_irrefl _ (Heap.lt_size e)
/-- max of a text -/
theorem max_text {txt : List Nat} {t : Tok} {Q : Value → Shared → Prop} (hh : A.handled = none) (hne : txt ≠ [])
    (h : ∀ (c : Nat) t h' tk, c ∈ txt → (∀ x ∈ txt, x ≤ c) → s.heap.StaysIn h' → Q (.str (strOf [c]) t) { s with heap := h', toks := tk }) :
    wpAny (model prog w) A (call (.builtin "max") [.str (strOf txt) t]) Q E s := by
  have hs : (strOf txt).cps.size = txt.length := rfl
  have hpos := List.length_pos_iff.mpr hne
  have hg : ∀ i v, SignAt (strOf txt) i v → ∃ t, v = .str (strOf [txt.getD i 0]) t := fun i v hv => by
    obtain ⟨c, u, hc, rfl⟩ := hv
    have hc : txt[i]? = some c := by simpa [strOf] using hc
    exact ⟨u, by rw [List.getD_eq_getElem?_getD, hc]; rfl⟩
  have hb := best_is (fun i => txt.getD i 0) (txt.length - 1)
  refine call_max_walk (wpAny_pyIter_str fun o St W hst => ⟨_, _, _, _, _, _, _, rfl, W A.in1 hh, hst, ?_, by rw [hs]; exact hpos, cmp_signs (fun i => txt.getD i 0) hg, fun v h' tk hP hk => ?_⟩)
  · intro b hb
    show b < (s.heap.push _).objs.size
    rw [Heap.size_push, List.mem_singleton.mp hb]
    exact Nat.lt_succ_self _
  · rw [hs] at hP
    generalize argBest (fun i j => decide (txt.getD j 0 < txt.getD i 0)) (txt.length - 1) = k at hP hb
    have hk' : k < txt.length := by omega
    obtain ⟨c, u, hc, rfl⟩ := hP
    have hc : txt[k]? = some c := by simpa [strOf] using hc
    have hkc : txt.getD k 0 = c := by rw [List.getD_eq_getElem?_getD, hc]; rfl
    refine h c u h' tk (List.mem_of_getElem? hc) (fun x hx => ?_) (fun b o e => hk b o (fun hm => ?_) (Heap.get?_push_of_some _ e))
    · obtain ⟨j, hj, rfl⟩ := List.mem_iff_getElem.mp hx
      have := hb.2 j (by omega)
      rwa [show txt.getD j 0 = txt[j] by rw [List.getD_eq_getElem?_getD, List.getElem?_eq_getElem hj]; rfl, hkc] at this
    · rw [List.mem_singleton.mp hm] at e; exact Nat.lt_irrefl _ (Heap.lt_size e)
end

/-! for i in range(1, n), tokens kept from 0 -/
theorem forW_E {prog : Program} {w : World} {A : Around} {E : Value → Shared → Prop} {Q : Flow → Shared → Prop} {s : Shared} {h₀ : Heap} {L a I : Addr} {name : Str} {scope : Scope} {cd : Value} {body : List Stmt} {n : Nat} {P : Nat → Value → Prop} {St : Nat → Heap → Prop} {σ : Type} {x : Str} {px : Pos} {m₀ : Str → Option Value} {news : List (Addr × Obj)}
    (W : Walks prog w A I [I] [I] n P St) (hst : St 0 s.heap) (hIh : h₀.get? I = none) (htk : 1 ≤ s.toks)
    (F : Fr h₀ L s.heap m₀) (N : News h₀ L s.heap news) (hIL : I ≠ L)
    (Inv : Nat → σ → Prop) (led : σ → List (Addr × Obj)) (loc : σ → List (Str × Dv)) (adr : List Addr) (hadr : ∀ c, (led c).map (·.1) = adr) (hIa : I ∉ adr) (c₀ : σ)
    (hm : HasD m₀ (loc c₀)) (hn : ∀ p ∈ led c₀, p ∈ news) (hI : Inv 0 c₀)
    (turn : ∀ (i : Nat) (v : Value) (c : σ) (u : Str → Option Value) (T : Nat → Tok) (h : Heap) (tk : Nat) (o : Obj) (Z : Flow → Shared → Prop), (∀ v s₃, Q (.ret v) s₃ → Z (.ret v) s₃) →
      (∀ c' h' tk' m' news', Fr h₀ L h' m' → News h₀ L h' news' → (∀ p ∈ led c', p ∈ news') → (I, o) ∈ news' → HasD m' (loc c') → Inv (i + 1) c' → Z .next { s with heap := h', toks := tk' }) →
      P i v → i < n → Inv i c → 1 ≤ tk → Fr h₀ L h (ov ((x, v) :: vals (loc c) T) u) → News h₀ L h (led c ++ [(I, o)]) →
      wpAny (model prog w) A (execs body (envOf name scope L a cd)) Z E { s with heap := h, toks := tk })
    (done : ∀ (c : σ) (u : Str → Option Value) (T : Nat → Tok) (h : Heap) (tk : Nat), Inv n c → Fr h₀ L h (ov (vals (loc c) T) u) → News h₀ L h (led c) → Q .next { s with heap := h, toks := tk })
    (hhas : ∀ i h, St i h → ∃ o, h.get? I = some o)
    (hE : PassesOwn (model prog w) A (envOf name scope L a cd) E)
    (hk : scope.kind = .function) (hx : (envOf name scope L a cd).kindOf x = some .local) :
    codeAny (model prog w) A (.forLoop (.Name x px) (.ref I) body [] (envOf name scope L a cd)) (fun r s' => match r with | .ok f => Q f s' | .error e => cameBackBy (model prog w) A (envOf name scope L a cd) E e s') s := by
  refine codeAny_forLoop_any (fun j s' => ∃ (i : Nat) (c : σ) (h : Heap) (tk : Nat) (m : Str → Option Value), i + j = n ∧ s' = { s with heap := h, toks := tk } ∧ St i h ∧ Fr h₀ L h m ∧ News h₀ L h (led c) ∧ HasD m (loc c) ∧ Inv i c ∧ 1 ≤ tk) ?_ n
    ⟨0, c₀, s.heap, s.toks, m₀, Nat.zero_add _, rfl, hst, F, fun p hp => N p (hn p hp), hm, hI, htk⟩
  rintro j s' ⟨i, c, h, tk, m, hij, rfl, hs, F₁, N₁, hm₁, hI₁, htk₁⟩
  obtain ⟨T, hT⟩ := hm₁.vals
  have hnx : ∀ p ∈ led c, p.1 ≠ I := fun p hp e => hIa (hadr c ▸ e ▸ List.mem_map_of_mem hp)
  have ni : ∀ b, b ≠ I → b ∉ [I] := fun b hb hm => hb (List.mem_singleton.mp hm)
  refine wpAny_with_toks (n := 1) htk₁ ?_
  by_cases hi : i < n
  · refine W.item i _ _ _ hi hs fun v h' tk' hP hs' hk' htk' => ?_
    have F2 : Fr h₀ L h' m := ⟨F₁.ns.at fun o e => hk' L o (ni L hIL.symm) e, fun b o e => hk' b o (ni b fun q => by rw [q, hIh] at e; cases e) (F₁.keep b o e), F₁.above⟩
    have N2 : News h₀ L h' (led c) := fun p hp => ⟨hk' _ _ (ni _ (hnx p hp)) (N₁ p hp).1, (N₁ p hp).2⟩
    obtain ⟨o, ho⟩ := hhas _ _ hs'
    have N3 : News h₀ L h' (led c ++ [(I, o)]) := fun p hp => (List.mem_append.mp hp).elim (N2 p) fun q => by rw [List.mem_singleton.mp q]; exact ⟨ho, hIL, hIh⟩
    refine wpAny_pure (wpAny_with_toks (n := 1) htk' (wpAny_assign_Name (st_any (s := { s with heap := h', toks := tk' }) F2 N3 (fun h3 tk3 F3 N3 htk3 => ?_) hk hx)))
    have F4 : Fr h₀ L h3 (ov ((x, v) :: vals (loc c) T) m) := Fr.eqv F3 fun z => by
      show (if z = x then some v else m z) = if z = x then some v else ov (vals (loc c) T) m z
      rw [← ov_has hT z]
    refine wpAny_passesOwn hE (wpAny_with_toks (n := 1) htk3 (wpAny_mono (turn i v c m T h3 tk3 o (fun f s₃ => match f with | .ret v => Q (.ret v) s₃ | .brk => Q .next s₃ | _ => ∃ (c' : σ) (h' : Heap) (tk : Nat) (m' : Str → Option Value) (news' : List (Addr × Obj)), s₃ = { s with heap := h', toks := tk } ∧ Fr h₀ L h' m' ∧ News h₀ L h' news' ∧ (∀ p ∈ led c', p ∈ news') ∧ (I, o) ∈ news' ∧ HasD m' (loc c') ∧ Inv (i + 1) c')
      (fun _ _ q => q) (fun c' h' tk' m' news' f n a b d e => ⟨c', h', tk', m', news', rfl, f, n, a, b, d, e⟩) hP hi hI₁ htk3 F4 N3) (fun f s₃ q htk4 => ?_) fun _ _ y _ => y))
    · have fin : (∃ (c' : σ) (h' : Heap) (tk : Nat) (m' : Str → Option Value) (news' : List (Addr × Obj)), s₃ = { s with heap := h', toks := tk } ∧ Fr h₀ L h' m' ∧ News h₀ L h' news' ∧ (∀ p ∈ led c', p ∈ news') ∧ (I, o) ∈ news' ∧ HasD m' (loc c') ∧ Inv (i + 1) c') →
          ∃ m, m < j ∧ ∃ (i : Nat) (c : σ) (h : Heap) (tk : Nat) (m' : Str → Option Value), i + m = n ∧ s₃ = { s with heap := h, toks := tk } ∧ St i h ∧ Fr h₀ L h m' ∧ News h₀ L h (led c) ∧ HasD m' (loc c) ∧ Inv i c ∧ 1 ≤ tk := by
        rintro ⟨c', h3, tk3, m', news', rfl, F3, N3, hn3, ho3, hm3, hI3⟩
        refine ⟨j - 1, by omega, i + 1, c', h3, tk3, m', by omega, rfl, W.frame _ _ _ hs' fun b hb o' e => ?_, F3, fun p hp => N3 p (hn3 p hp), hm3, hI3, htk4⟩
        rw [List.mem_singleton.mp hb] at e ⊢
        rw [ho] at e; cases e
        exact (N3 _ ho3).1
      cases f with
      | ret v => exact q
      | brk => exact q
      | next => exact fin q
      | cont => exact fin q
  · obtain rfl : i = n := by omega
    refine W.done _ _ _ hs fun h' tk' hk' _ => wpAny_passesOwn hE (wpAny_execs_nil ?_)
    exact done c m T h' tk' hI₁ (Fr.ov ⟨F₁.ns.at fun o e => hk' L o (ni L hIL.symm) e, fun b o e => hk' b o (ni b fun q => by rw [q, hIh] at e; cases e) (F₁.keep b o e), F₁.above⟩ hT) fun p hp => ⟨hk' _ _ (ni _ (hnx p hp)) (N₁ p hp).1, (N₁ p hp).2⟩
/-- range(1, n) -/
theorem range_src {prog : Program} {w : World} {A : Around} {E : Value → Shared → Prop} {K : Value → Shared → Prop} {s : Shared} {h₀ : Heap} {L : Addr} {m₀ : Str → Option Value} {news : List (Addr × Obj)} {n : Nat} {t u : Tok} (hh : A.handled = none) (hn : n < 1000)
    (F : Fr h₀ L s.heap m₀) (N : News h₀ L s.heap news)
    (h : ∀ I h' tk, Fr h₀ L h' m₀ → News h₀ L h' news → h₀.get? I = none → I ≠ L → (∀ p ∈ news, p.1 ≠ I) → s.toks ≤ tk → Walks prog w A I [I] [I] n (fun i v => ∃ t, v = .int (1 + i * 1) t) (fun i h => IsRangeIter h I (1 + (i : Nat) * 1) ((n : Int) - (i : Nat)) 1) →
      IsRangeIter h' I (1 + ((0 : Nat) : Int) * 1) ((n : Int) - ((0 : Nat) : Int)) 1 → K (.ref I) { s with heap := h', toks := tk }) :
    wpAny (model prog w) A (call (.type "range") [.int 1 t, .int (n + 1) u]) (fun v s₁ => wpAny (model prog w) A (pyIter v) K E s₁) E s := by
  refine call_range_2 (wpAny_pyIter_range (IsRange.new _ _ _ _ _ _ _) (small_one (by omega) (by omega) (by omega) (by omega)) ?_)
  have hsz : (s.heap.push { cls := .type "range", data := .fields #[.int 1 t, .int (n + 1) u, .int 1 s.toks] }).objs.size = s.heap.objs.size + 1 := Heap.size_push ..
  have hlt : ∀ {b o}, s.heap.get? b = some o → b ≠ s.heap.objs.size + 1 := fun e => Nat.ne_of_lt (Nat.lt_succ_of_lt (Heap.lt_size e))
  obtain ⟨oL, _, _, hL, _⟩ := F.ns
  have hk : s.heap.StaysIn ((s.heap.push { cls := .type "range", data := .fields #[.int 1 t, .int (n + 1) u, .int 1 s.toks] }).push { cls := .type "range_iterator", data := .fields #[rawInt 1, rawInt (Builtin.Range.rangeSize 1 (n + 1) 1), rawInt 1] }) := fun _ _ e => Heap.get?_push_of_some _ (Heap.get?_push_of_some _ e)
  dsimp only
  rw [hsz]
  refine h _ _ _ (fr_stays F hk) (news_stays N hk) ?_ (hlt hL).symm (fun p hp => hlt (N p hp).1) (Nat.le_succ _) (Walks.range hh _ 1 1 n) ?_
  · cases q : h₀.get? (s.heap.objs.size + 1) with
    | none => rfl
    | some o => exact absurd rfl (hlt (F.keep _ _ q))
  · have hg := Heap.get?_push_size (s.heap.push { cls := .type "range", data := .fields #[.int 1 t, .int (n + 1) u, .int 1 s.toks] }) (o := { cls := .type "range_iterator", data := .fields #[rawInt 1, rawInt (Builtin.Range.rangeSize 1 (n + 1) 1), rawInt 1] }) rfl
    have hr : Builtin.Range.rangeSize 1 (n + 1) 1 = n := by rw [rangeSize_one]; split <;> omega
    rw [hsz, hr] at hg
    rw [hr, show (1 : Int) + ((0 : Nat) : Int) * 1 = 1 by omega, show (n : Int) - ((0 : Nat) : Int) = n by omega]
    exact hg

theorem setup_stop : True := by
  k_with "stop" =>
    (fail_if_success (with_reducible show wpAny _ _ (subscriptTail _ _ (PySem.Value.ref _) (PySem.Value.int _ _)) _ _ _)
     fail_if_success (with_reducible show wpAny _ _ (PySem.call (PySem.Value.builtin "max") _) _ _ _)
     fail_if_success (with_reducible show wpAny _ _ (PySem.call (PySem.Value.type "list") _) _ _ _)
     fail_if_success (with_reducible show wpAny _ _ (PySem.call (PySem.Value.builtin "str.join") _) _ _ _)
     fail_if_success (with_reducible show wpAny _ _ (PySem.call (PySem.Value.ref 98) _) _ _ _)
     fail_if_success (with_reducible show wpAny _ _ (PySem.call (PySem.Value.ref 140) _) _ _ _)
     fail_if_success (with_reducible show wpAny _ _ (PySem.call (PySem.Value.ref 105) _) _ _ _)
     fail_if_success (with_reducible show wpAny _ _ (PySem.call (PySem.Value.ref 112) _) _ _ _)
     fail_if_success (with_reducible show wpAny _ _ (PySem.call (PySem.Value.ref 119) _) _ _ _)
     fail_if_success (with_reducible show wpAny _ _ (PySem.call (PySem.Value.ref 126) _) _ _ _)
     fail_if_success (with_reducible show wpAny _ _ (PySem.call (PySem.Value.ref 133) _) _ _ _)
     fail_if_success (with_reducible show wpAny _ _ (PySem.compareOp PySem.CmpOp.Eq (PySem.Value.ref _) (PySem.Value.ref _)) _ _ _)
     fail_if_success (with_reducible show wpAny _ _ (PySem.compareOp PySem.CmpOp.In _ (PySem.Value.ref _)) _ _ _)
     fail_if_success (with_reducible show wpAny _ _ (PySem.call (PySem.Value.builtin "sorted") _) _ _ _)
     fail_if_success (with_reducible show wpAny _ _ (PySem.call (PySem.Value.builtin "bytes.find") _) _ _ _)
     fail_if_success (with_reducible show wpAny _ _ (subscriptTail _ _ (PySem.Value.bytes _ _) (PySem.Value.ref _)) _ _ _)
     fail_if_success (with_reducible show wpAny _ _ (PySem.call (PySem.Value.builtin "len") [PySem.Value.bytes _ _]) _ _ _))
  k_with "go2" => ((repeat' (first | (k_unfold; (try dsimp only)) | (k_extra "loop"; k_extra "stop"; walk1) | (k_extra "loop"; dsimp only; k_extra "loop"; k_extra "stop"; walk1))) <;> (try dsimp only))
  k_with "goL" => ((repeat' (first | (k_unfold; (try dsimp only)) | ((fail_if_success (with_reducible show wpAny _ _ (PySem.call (PySem.Value.builtin "len") [PySem.Value.ref _]) _ _ _)); k_extra "loop"; k_extra "stop"; walk1))) <;> (try dsimp only))
  trivial
theorem wpAny_execs_consT {M : Model} {A : Around} {E : Value → Shared → Prop} {s : Shared} {env : Env} {st : Stmt} {rest : List Stmt} {Q : Flow → Shared → Prop} {n : Nat} (hn : n ≤ s.toks)
    (h : wpAny M A (exec st env) (fun f s' => n ≤ s'.toks → match f with | .next => wpAny M A (execs rest env) Q E s' | f => Q f s') (fun e s' => E e s') s) : wpAny M A (execs (st :: rest) env) Q E s :=
  wpAny_execs_cons (wpAny_with_toks hn (wpAny_mono h (fun _ _ x => x) fun _ _ x _ => x))
structure LbS where
  k : Nat
  st : Lay
  vs : List Value
  n : Nat
/-- what holds between the turns -/
structure LbI (txt : List Nat) (ns : List Int) (i : Nat) (c : LbS) : Prop where
  st : c.st = (ns.take i).foldl lstep ⟨txt, 128, -1⟩
  vs : IntsAre c.vs (ns.take i)
  top : Top1 c.st
  len : c.st.txt.length = txt.length + i
  p1 : c.st.pos ≤ 20
  c1 : c.st.code ≤ 200 + 2100 * i
theorem lays_at : ∀ (ns : List Int) (st : Lay) (i : Nat), i ≤ ns.length → (st.txt :: lays st ns)[i]? = some ((ns.take i).foldl lstep st).txt
  | _, _, 0, _ => rfl
  | [], _, i + 1, h => absurd h (Nat.not_succ_le_zero i)
  | N :: r, st, i + 1, h => lays_at r (lstep st N) i (Nat.le_of_succ_le_succ h)
theorem strs_at {vs : List Value} {xs : List (List Nat)} (h : StrsAre vs (xs.map strOf)) {k : Nat} {y : List Nat} (hy : xs[k]? = some y) : ∃ t, vs[k]? = some (.str (strOf y) t) := by
  have hk : k < vs.length := by rw [h.length, List.length_map]; exact (List.getElem?_eq_some_iff.mp hy).1
  obtain ⟨z, t, e, hz⟩ := h.item k vs[k] (List.getElem?_eq_getElem hk)
  rw [List.getElem?_map, hy] at hz
  cases hz
  exact ⟨t, by rw [List.getElem?_eq_getElem hk, e]⟩
/-- what a turn meets -/
structure LbT (txt : List Nat) (ns : List Int) (i : Nat) (c : LbS) (N : Int) (new : List Nat) (p cc : Nat) : Prop where
  num : ns[i]? = some N
  laid : Laid1 c.st N p cc
  seen : Seen c.st.txt new p cc
  is : new = (lstep c.st N).txt
  here : (txt :: lays ⟨txt, 128, -1⟩ ns)[i + 1]? = some new
  ahead : (txt :: lays ⟨txt, 128, -1⟩ ns)[i]? = some c.st.txt
  len : new.length = txt.length + i + 1
theorem lb_turn {txt : List Nat} {ns : List Int} {i : Nat} {c : LbS} (hns : ∀ n ∈ ns, 0 ≤ n ∧ n < 2000) (I : LbI txt ns i c) (hi : i < ns.length) : ∃ N new p cc, LbT txt ns i c N new p cc := by
  have hN : ns[i]? = some ns[i] := List.getElem?_eq_getElem hi
  obtain ⟨p, cc, hl⟩ := laid_is (st := c.st) (hns ns[i] (List.getElem_mem hi)).1 I.top.p0 I.top.c0
  have htk : ns.take (i + 1) = ns.take i ++ [ns[i]] := by rw [List.take_add_one, hN]; rfl
  have hs := seen_of I.top hl
  refine ⟨ns[i], _, p, cc, hN, hl, hs, rfl, ?_, ?_, ?_⟩
  · have := lays_at ns ⟨txt, 128, -1⟩ (i + 1) hi
    rw [htk, List.foldl_append, ← I.st] at this
    exact this
  · have := lays_at ns ⟨txt, 128, -1⟩ i (Nat.le_of_lt hi)
    rw [← I.st] at this
    exact this
  · rw [seen_len hs, I.len]
theorem are_reverse {vs : List Value} {ys : List Str} (h : StrsAre vs ys) : StrsAre vs.reverse ys.reverse := by
  induction h with
  | nil => exact .nil
  | cons y t _ ih => rw [List.reverse_cons, List.reverse_cons]; exact are_append ih (.cons y t .nil)
def units (txt : List Nat) : List (List Nat) := txt.map fun c => [c]
theorem units_are {vs : List Value} {txt : List Nat} (h : Signs vs txt) : StrsAre vs ((units txt).map strOf) := by
  unfold units; rw [List.map_map]; exact h
theorem units_rev {vs : List Value} {txt : List Nat} (h : Signs vs txt) : StrsAre vs.reverse ((units txt).reverse.map strOf) := by
  rw [List.map_reverse]; exact are_reverse (units_are h)
theorem units_at {txt : List Nat} {k x : Nat} : (units txt)[k]? = some [x] ↔ txt[k]? = some x := by
  unfold units; rw [List.getElem?_map]
  cases txt[k]? <;> simp
theorem units_rev_at {txt : List Nat} {k x : Nat} : (units txt).reverse[k]? = some [x] ↔ txt.reverse[k]? = some x := by
  unfold units; rw [← List.map_reverse, List.getElem?_map]
  cases txt.reverse[k]? <;> simp
theorem are_erase {vs : List Value} {ys : List Str} (h : StrsAre vs ys) : ∀ k, StrsAre (vs.eraseIdx k) (ys.eraseIdx k) := by
  induction h with
  | nil => intro k; exact .nil
  | cons y t r ih => intro k; cases k with
    | zero => exact r
    | succ k => exact .cons y t (ih k)
theorem map_erase {α β : Type} (f : α → β) : ∀ (l : List α) (k : Nat), (l.eraseIdx k).map f = (l.map f).eraseIdx k
  | [], _ => rfl
  | _ :: _, 0 => rfl
  | a :: r, k + 1 => by rw [List.eraseIdx_cons_succ, List.map_cons, List.map_cons, List.eraseIdx_cons_succ, map_erase f r k]
theorem signs_erase {vs : List Value} {old new : List Nat} {p c : Nat} (h : Signs vs new) (s : Seen old new p c) : Signs (vs.eraseIdx p) old := by
  have := are_erase h p
  rw [← map_erase, seen_erase s] at this
  exact this
theorem units_count {old new : List Nat} {p c : Nat} (s : Seen old new p c) : (units new).count [c] = (units old).count [c] + 1 := by
  have e : units new = (units old).take p ++ [[c]] ++ (units old).drop p := by
    unfold units; rw [s.txt, List.map_append, List.map_append, List.map_take, List.map_drop]; rfl
  have e2 : (units old).count [c] = ((units old).take p).count [c] + ((units old).drop p).count [c] := by
    rw [← List.count_append, List.take_append_drop]
  rw [e, e2, List.count_append, List.count_append]
  simp [List.count_cons]
  omega
theorem units_getD {txt : List Nat} {k x : Nat} (h : txt[k]? = some x) : (units txt).getD k [] = [x] := by
  rw [List.getD_eq_getElem?_getD, units_at.mpr h]; rfl
theorem units_contains {txt : List Nat} {k x : Nat} (h : txt[k]? = some x) : (units txt).contains [x] = true :=
  List.contains_iff_mem.mpr (List.mem_map.mpr ⟨x, List.mem_of_getElem? h, rfl⟩)
theorem laid_up {st : Lay} {N : Int} {p c : Nat} (h : Laid1 st N p c) : (c : Int) - st.code ≤ N + st.pos + 1 := by
  have h1 := h.num
  have h2 := h.up
  have h3 : ((c : Int) - st.code) * 1 ≤ ((c : Int) - st.code) * ((st.txt.length : Int) + 1) := Int.mul_le_mul_of_nonneg_left (by omega) (by omega)
  generalize ((c : Int) - st.code) * ((st.txt.length : Int) + 1) = M at *
  omega
theorem ints_snoc {vs : List Value} {ns : List Int} (h : IntsAre vs ns) (n : Int) (t : Tok) : IntsAre (vs ++ [.int n t]) (ns ++ [n]) := by
  induction h with
  | nil => exact .cons n t .nil
  | cons m u _ ih => exact .cons m u ih
theorem lb_next {txt : List Nat} {ns : List Int} {i : Nat} {c : LbS} {N : Int} {new : List Nat} {p cc n k : Nat} {t : Tok} (I : LbI txt ns i c) (h : LbT txt ns i c N new p cc) (hN : 0 ≤ N ∧ N < 2000) (hl : ns.length ≤ 8) (ht : txt.length ≤ 8) :
    LbI txt ns (i + 1) ⟨k, lstep c.st N, c.vs ++ [.int N t], n⟩ := by
  have htk : ns.take (i + 1) = ns.take i ++ [N] := by rw [List.take_add_one, h.num]; rfl
  have hil : i < ns.length := (List.getElem?_eq_some_iff.mp h.num).1
  have h1 := laid_up h.laid
  have h2 := h.laid.le
  have h3 := I.len
  have h4 := I.p1
  have h5 := I.c1
  refine ⟨?_, ?_, top_next I.top h.laid, ?_, ?_, ?_⟩
  · dsimp only; rw [htk, List.foldl_append, ← I.st]; rfl
  · dsimp only; rw [htk]; exact ints_snoc I.vs N t
  · dsimp only; rw [lstep_len]; omega
  · dsimp only; rw [h.laid.pos]; omega
  · dsimp only; rw [h.laid.code]; omega
theorem ne_same {x : Str} {P : Prop} (h : (x != x) = true) : P := by simp at h
theorem back_all (w : World) (mean : ExcName → Option Value) (mg mb : Str → Option Value) (txt : List Nat) (ns : List Int) (l : Addr) (hb : ∀ c ∈ txt, c < 128)
    (hns : ∀ n ∈ ns, 0 ≤ n ∧ n < 2000) (hl : ns.length ≤ 8) (ht : txt.length ≤ 8) :
    ∀ (dp un : Nat) (gd : Option (List Code)) (outer : List Env) (base : Heap) (s : Shared) (Q E : Value → Shared → Prop),
      Below (Ar dp un gd outer) base outer s.heap → (hd.heap_39 w.params).In base → TopF mean mg mb base → StrList s.heap l (txt :: lays ⟨txt, 128, -1⟩ ns) → Room dp un 2 →
      (∀ a h' tk' vs n, s.heap.StaysIn h' → s.heap.get? a = none → h'.get? a = some (listOf vs.toArray n) → IntsAre vs ns → Q (.ref a) { s with heap := h', toks := tk' }) →
      wpAny (model PySem.Challenge.rw_nb0162_01.row.prog w) (Ar dp un gd outer) (call (.ref 168) [.ref l]) Q E s := by
  k_fill
  intro dp un gd outer base s Q E B XB TB hpre hroom hret
  obtain ⟨lv, hll, hli⟩ := hpre
  have X := XB.keeps B.stays
  have T := TB.keeps B.stays
  refine enterX [("texts", .ref l)] (by assumption) (XB.keeps B.stays) (TB.keeps B.stays) (Room.here (by assumption)) (by k_is) (by k_is) (by exact rfl) (by exact rfl) (by exact rfl) ?_ (by decide) (by exact rfl) (by exact rfl) (by exact rfl)
  intro L h₁ tk u E' PO PA LV F N
  k_fold
  k_extra "go2"
  refine wpAny_For ?_ (by intro _; rfl)
  have hlv := hli.length
  rw [List.length_map, List.length_cons, lays_length] at hlv
  have hlv1 : lv.length ≤ 1000 := by omega
  k_extra "goL"
  refine Calls.call_len_list (hll.at fun o e => F'.keep _ _ e) (by rw [List.size_toArray]; omega) ?_
  rw [List.size_toArray, hlv, Int.natCast_add]
  k_extra "go2"
  refine name1 (fun p hp => N' p (.tail _ hp)) ?_
  intro tl htl
  subst htl
  refine range_src (n := ns.length) (s := { s with heap := h', toks := _ }) rfl (by omega) F' N' fun I h3 tk3 F3 N3 hI0 hIL hIn htk3 W3 hst3 => ?_
  clear F' N'
  refine forW_E (σ := LbS) (s := { s with heap := h3, toks := tk3 }) W3 hst3 hI0 (Nat.le_trans (Nat.le_add_left _ _) htk3) F3 N3 hIL (LbI txt ns) (fun c => [(tl, listOf c.vs.toArray c.n)])
    (fun c => [("texts", .r l), ("numbers", .r tl), ("code", .i c.st.code), ("last", .i c.st.pos)]) [tl] (fun _ => rfl) ?_ ⟨0, ⟨txt, 128, -1⟩, [], 0⟩ (by k_extra "has") (fun p hp => .tail _ hp) ⟨rfl, .nil, top_start hb, rfl, by dsimp only; decide, by dsimp only; decide⟩ ?_ ?_ (fun i h q => ⟨_, q⟩) (by passes_own) rfl rfl
  · intro hm
    exact hIn _ (.tail _ (.head _)) (List.mem_singleton.mp hm).symm
  · intro i v c u TT h tk oI Z ZR ZN hP hi hI htk F9 N9
    obtain ⟨ti, rfl⟩ := hP
    obtain ⟨N0, new, p, cc, lt⟩ := lb_turn hns hI hi
    rw [show (1 : Int) + (i : Int) * 1 = ((i + 1 : Nat) : Int) by omega] at F9
    dsimp only [vals, Dv.v, List.cons_append, List.nil_append] at F9 N9
    have hnl := lt.len
    have htl : tl ≠ I := hIn _ (.tail _ (.head _))
    have hi9 : (((i + 1 : Nat) : Int)) < lv.length := by omega
    have hnsH := Hide.mk hns
    clear hns hret
    obtain ⟨t5, hv5⟩ := strs_at hli lt.here
    k_extra "go2"
    refine PyProof.Rows.item_listL (hll.at fun o e => F9.keep _ _ e) (by omega) (by omega) (x := .str (strOf new) t5) hv5 ?_
    k_extra "go2"
    refine list_signs (s := { s with heap := h, toks := tk }) rfl F9 N9 (by omega) fun sl c8 h8 tk8 F8 N8 ne8 => ?_
    have hsl := tokSigns_are new tk
    have hto := toks_of (txt := new) htk
    have htl8 := tokSigns_length new tk
    have hne : new ≠ [] := fun e => by rw [e] at hnl; simp at hnl
    have hcc : ∀ (k x : Nat) (v : Value), (tokSigns tk new)[k]? = some v → new[k]? = some x → (∀ y ∈ new, y ≤ x) → v = .str (strOf [cc]) (tk + k) ∧ x = cc := fun k x v hv hx hm => by
      have e : x = cc := Nat.le_antisymm (lt.seen.max x (List.mem_of_getElem? hx)) (hm cc (List.mem_of_getElem? (seen_at lt.seen)))
      rw [tokSigns_get, hx, e] at hv
      exact ⟨(Option.some.inj hv).symm, e⟩
    generalize hgen : tokSigns tk new = sg at *
    clear F9 N9
    k_extra "go2"
    refine max_signs rfl (PySem.IsL.isList (n := c8) (N'.get (.head _))) hsl hne fun k x v h10 tk10 hv hx hm st10 => ?_
    obtain ⟨rfl, rfl⟩ := hcc k x v hv hx hm
    have F10 := fr_stays F' st10
    have N10 := news_stays N' st10
    have ht10 := hto _ _ (List.mem_of_getElem? hv)
    clear F' N' hcc
    k_extra "go2"
    rename Fr _ _ _ _ => F11
    rename News _ _ _ _ => N11
    have hl11 := N11.get (.head _)
    rw [krv_pick] at hl11
    have hmem : [x] ∈ (units new).reverse := List.mem_reverse.mpr (List.mem_map.mpr ⟨x, List.mem_of_getElem? hx, rfl⟩)
    refine indexOf_all w mean mg mb (fun t => [new.getD (t - tk) 0]) (units new).reverse [x] _ (tk + k) ht10.1 ht10.2 (dp + 1) (un + 3) gd _ base _ _ _ (below_here B F11 rfl) XB TB
      ⟨sg.reverse, ⟨_, hl11, rfl, _, rfl⟩, units_rev hsl, fun y t hm => hto y t (List.mem_reverse.mp hm)⟩ (Room.down hroom rfl) ?_ (fun hno => absurd hmem hno)
    · intro k2 t2 h12 tk12 hk2 hmin st12
      have hk3 := seen_rev lt.seen (units_rev_at.mp hk2) (fun j hj q => hmin j hj (units_rev_at.mpr q))
      have hple := lt.seen.le
      have hsln := seen_len lt.seen
      have hpl : (sg.length : Int) - 1 - k2 = p := by omega
      have F12 := fr_stays F11 st12
      have N12 : News s.heap L h12 [(sl, listOf sg.toArray c8), (tl, listOf c.vs.toArray c.n), (I, oI)] := fun q hq => news_stays N11 st12 q (.tail _ hq)
      clear F11 N11 hl11
      k_extra "go2"
      rw [hpl] at F'
      have hul : (units new).length = new.length := List.length_map ..
      have hpn := seen_at lt.seen
      have htk1 : ∀ y t, Value.str y t ∈ sg.eraseIdx p → t ≠ 0 ∧ y = strOf [new.getD (t - tk) 0] := fun y t hm => hto y t (List.mem_of_mem_eraseIdx hm)
      refine Tells.useI (countOf_tells w mean mg mb (fun t => [new.getD (t - tk) 0]) (units new) [x] sl (tk + k) ht10.1 ht10.2) B F' X N' T rfl ⟨sg, PySem.IsL.isList (n := c8) (N'.get (.head _)), units_are hsl, hto⟩ (Room.down hroom rfl) fun t13 h13 tk13 F13 N13 => ?_
      clear F' N'
      k_extra "go2"
      refine Tells.use (getitem_tells w mean mg mb (units new) sl p _ (by omega) (by omega) (by omega)) B F' X N' T rfl ⟨sg, PySem.IsL.isList (n := c8) (N'.get (.head _)), units_are hsl⟩ (Room.down hroom rfl) ?_
      rintro _ h14 tk14 F14 N14 ⟨t14, rfl⟩ _
      rw [Int.toNat_natCast, units_getD hpn]
      clear F' N'
      k_extra "go2"
      · exact ne_same (by assumption)
      refine Tells.use (contains_tells w mean mg mb (units new) [x] sl (tk + k) (by omega)) B F14 X N14 T rfl ⟨sg, PySem.IsL.isList (n := c8) (N14.get (.head _)), units_are hsl⟩ (Room.down hroom rfl) ?_
      rintro _ h15 tk15 F15 N15 rfl _
      rw [units_contains hpn]
      clear F14 N14
      k_extra "go2"
      have hil : (p : Int) < sg.length := by omega
      have n1 : tl ≠ sl := ne8 _ (.head _)
      have n2 : I ≠ sl := ne8 _ (.tail _ (.head _))
      refine TellsM.use (delitem_tells w mean mg mb sg sl p _ (by omega) hil (by omega)) B F15 X N15 T rfl (.head (List.forall_mem_cons.mpr ⟨n1, List.forall_mem_cons.mpr ⟨n2, fun q hq => nomatch hq⟩⟩)) trivial (Room.down hroom rfl) ?_
      intro n16 h16 tk16 F16 N16
      rw [Int.toNat_natCast] at N16
      have hsl2 := signs_erase hsl lt.seen
      clear F15 N15
      k_extra "go2"
      refine Tells.useI (countOf_tells w mean mg mb (fun t => [new.getD (t - tk) 0]) (units c.st.txt) [x] sl (tk + k) ht10.1 ht10.2) B F16 X N16 T rfl ⟨sg.eraseIdx p, PySem.IsL.isList (n := n16) (N16.get (.head _)), units_are hsl2, htk1⟩ (Room.down hroom rfl) fun t17 h17 tk17 F17 N17 => ?_
      have hcnt := units_count lt.seen
      clear F16 N16
      k_extra "go2"
      · exfalso; omega
      obtain ⟨t18, hv18⟩ := strs_at hli lt.ahead
      refine join_signs (N17.get (.head _)) hsl2 (by omega) fun t19 tk19 => ?_
      k_extra "go2"
      refine PyProof.Rows.item_listL (hll.at fun o e => F17.keep _ _ e) (by omega) (by omega) (x := .str (strOf c.st.txt) t18) (by rw [show ((((i + 1 : Nat) : Int) - 1)).toNat = i by omega]; exact hv18) ?_
      k_extra "goL"
      · exact ne_same (by assumption)
      have hel := hsl2.length
      rw [List.length_map] at hel
      have hnum := lt.laid.num
      rw [← hel] at hnum
      have hN0 := hnsH.out N0 (List.mem_of_getElem? lt.num)
      have hup := laid_up lt.laid
      have hup2 := lt.laid.up
      have hp1 := hI.p1
      have hb1 : NB ((x : Int) - c.st.code) := by unfold NB; omega
      have hb2 : NB (((sg.eraseIdx p).length : Int) + 1) := by unfold NB; omega
      have n3 : sl ≠ tl := n1.symm
      have n4 : I ≠ tl := htl.symm
      have hvl : c.vs.length < 100000 := by
        have := hI.vs.length
        rw [List.length_take] at this
        omega
      clear hto htk1 hsl hmem hmin hk2 hm hv ht10 hcnt hv18 hpn hul hup hup2
      have hh1 : (sg.eraseIdx p).length ≤ 1000 := by omega
      k_extra "go2"
      rw [hnum] at N'
      refine ZN _ _ _ _ _ F' N' ?_ ?_ ?_ (lb_next (t := t') (n := c.n + 1) (k := 0) hI lt hN0 hl ht)
      · intro q hq
        rw [List.mem_singleton.mp hq]; exact .tail _ (.tail _ (.head _))
      · exact .tail _ (.tail _ (.tail _ (.head _)))
      · dsimp only
        rw [lt.laid.code, lt.laid.pos]
        k_extra "has"
  · intro c u TT h tk hI F9 N9
    dsimp only [vals, Dv.v] at F9 N9
    k_extra "go2"
    show Q (Value.ref _) _
    have hv := hI.vs
    rw [List.take_of_length_le (Nat.le_refl _)] at hv
    exact hret _ _ _ c.vs c.n F9.keep (N9.fresh (.head _)) (N9.get (.head _)) hv

open PySem.Builtin in
theorem find_kind : builtinKind "bytes.find" = some .method := by kernel_rfl
open PySem.Builtin in
theorem find_entry : entryFor table "bytes.find" = some Builtin.«bytes.find» := entryFor_of_tree (by kernel_rfl)
theorem find_slot : Slot "bytes" "find" "bytes.find" := .of (owner := "bytes") (n := "find") (by rw [typeLookup_type, builtinLookup_eq_fast]; kernel_rfl) (by decide +kernel) (by decide +kernel) (by decide +kernel)
    (by first | exact .inl (by decide +kernel) | exact .inr (by decide +kernel)) (by rw [isSubtype_type]; kernel_rfl)
theorem find_args (a b : Value) : argsOk "bytes.find" ⟨[a, b], []⟩ := by unfold argsOk; kernel_rfl
theorem find_at {d : Int} (h0 : 0 ≤ d) (h1 : d < 36) : Builtin.Bytes.find? digitL.toArray #[lo d] 0 36 = some d.toNat := by
  have h : ∀ k : Fin 36, Builtin.Bytes.find? digitL.toArray #[lo (k.val : Nat)] 0 36 = some k.val := by decide +kernel
  have := h ⟨d.toNat, by omega⟩
  rw [show ((⟨d.toNat, by omega⟩ : Fin 36).val : Int) = d from Int.toNat_of_nonneg h0] at this
  exact this
theorem find_call {prog : Program} {w : World} {A : Around} {E : Value → Shared → Prop} {s : Shared} {d : Int} {t0 t : Tok} {Q : Value → Shared → Prop} (h0 : 0 ≤ d) (h1 : d < 36) (h : ∀ t tk, Q (.int d t) { s with toks := tk }) :
    wpAny (model prog w) A (call (.builtin "bytes.find") [.bytes digitL.toArray t0, .bytes #[lo d] t]) Q E s := by
  refine wpAny_call_entry find_slot (typeIs_bytes _ _ _) find_entry ?_ (find_args _ _)
  have hT : Shared.TypeIs s (.bytes #[lo d] t) "bytes" := rfl
  have hb : typeLookup (.type "bytes") "__buffer__" = pure (some (.builtin "bytes.__buffer__")) := by rw [typeLookup_type, builtinLookup_eq_fast]; kernel_rfl
  have hr : typeLookup (.type "bytes") "__release_buffer__" = pure none := by rw [typeLookup_type, builtinLookup_eq_fast]; kernel_rfl
  unfold Builtin.«bytes.find» Builtin.Bytes.searchM Builtin.Bytes.searchArgs
  refine wpAny_bind (wpAny_bind ?_)
  unfold selfAndSome
  refine wpAny_bind (wpAny_pure (wpAny_bind (wpAny_pure (wpAny_pure ?_))))
  refine wpAny_bind (wpAny_pure (wpAny_bind (wpAny_pure ?_)))
  refine wpAny_bind ?_
  unfold Builtin.Bytes.buffer?
  refine wpAny_bind (wpAny_specialOf hT hb (wpAny_bind ?_))
  refine slot_own hT hb (by decide +kernel) (by decide +kernel) F.bm_sub ?_
  refine wpAny_bind (wpAny_specialOf hT hb ?_)
  refine wpAny_bind ?_
  unfold Builtin.Bytes.ownRelease Builtin.Bytes.slotIsOwn
  refine wpAny_bind (wpAny_bind (wpAny_specialOf hT hr (wpAny_pure (wpAny_pure ?_))))
  refine wpAny_pure ?_
  refine wpAny_bind (wpAny_pure ?_)
  refine wpAny_bind (wpAny_pure ?_)
  have hw : Builtin.Bytes.window digitL.toArray.size none none = (0, 36) := by decide +kernel
  show wpAny _ _ (match Builtin.Bytes.window digitL.toArray.size none none with | (l, hi) => pure (digitL.toArray, #[lo d], if hi - l < (#[lo d].size : Int) then none else some (l.toNat, hi.toNat))) _ E s
  rw [hw]
  refine wpAny_pure ?_
  show wpAny _ _ (match Builtin.Bytes.find? digitL.toArray #[lo d] 0 36 with | some i => retInt (i : Int) | none => _) _ E s
  rw [find_at h0 h1]
  show wpAny _ _ (retInt (d.toNat : Int)) _ E s
  rw [Int.toNat_of_nonneg h0]
  unfold retInt
  exact wpAny_bind (wpAny_mkInt (wpAny_pure ⟨_, rfl, h _ _⟩))

/-! slices of bytes; sorted of three ints -/
section
variable {prog : Program} {w : World} {A : Around} {E : Value → Shared → Prop} {s : Shared} {value slice : PySem.Expr} {x : List UInt8} {t : Tok} {h₀ : Heap} {L : Addr} {m : Str → Option Value} {news : List (Addr × Obj)} {l u : Value} {lo hi : Option Int} {Q : Value → Shared → Prop}
theorem slice_By (hF : Fr h₀ L s.heap m) (hN : News h₀ L s.heap news) (hl : IsPart l lo) (hu : IsPart u hi) (hz : x.length ≤ 1000) {a b : Nat} (ha : lo.elim 0 (clipAt x.length) = a) (hb : hi.elim x.length (clipAt x.length) = b)
    (h : ∀ h' t' k, Fr h₀ L h' m → News h₀ L h' news → Q (.bytes ((x.drop a).take (b - a)).toArray t') { s with heap := h', toks := k })
    (hs : subscripted slice false (.bytes x.toArray t) (.ref s.heap.objs.size) = operate [.ref s.heap.objs.size, .bytes x.toArray t] (getItem (.bytes x.toArray t) (.ref s.heap.objs.size)) := by with_unfolding_all rfl)
    (ht : ∀ r, letTemporaryGo value (.bytes x.toArray t) r = pure () := by intro _; with_unfolding_all rfl) :
    wpAny (model prog w) A (subscriptTail value slice (.bytes x.toArray t) (.ref s.heap.objs.size)) Q E { s with heap := s.heap.push { cls := .type "slice", data := .fields #[l, u, .none] } } := by
  refine KBc.slice_K hF hN rfl hl hu (by rw [KBw.ints_length, List.size_toArray]; omega) (fun h' t' k F' N' _ => ?_) hs ht
  rw [KBc.picked_eq, List.size_toArray, ha, hb]
  exact h h' t' k F' N'
theorem one_of {p : Nat} {c : UInt8} (h : x[p]? = some c) : (x.drop p).take (p + 1 - p) = [c] := by
  obtain ⟨hp, rfl⟩ := List.getElem?_eq_some_iff.mp h
  rw [List.drop_eq_getElem_cons hp, Nat.add_sub_cancel_left]
  rfl
/-- one octet cut out -/
theorem octet_By {p : Nat} {c : UInt8} {t1 t2 : Tok} {v1 v2 : Int} (e1 : v1 = p) (e2 : v2 = p + 1) (hF : Fr h₀ L s.heap m) (hN : News h₀ L s.heap news) (hp : x[p]? = some c) (hz : x.length ≤ 1000)
    (h : ∀ h' t' k, Fr h₀ L h' m → News h₀ L h' news → Q (.bytes #[c] t') { s with heap := h', toks := k })
    (hs : subscripted slice false (.bytes x.toArray t) (.ref s.heap.objs.size) = operate [.ref s.heap.objs.size, .bytes x.toArray t] (getItem (.bytes x.toArray t) (.ref s.heap.objs.size)) := by with_unfolding_all rfl)
    (ht : ∀ r, letTemporaryGo value (.bytes x.toArray t) r = pure () := by intro _; with_unfolding_all rfl) :
    wpAny (model prog w) A (subscriptTail value slice (.bytes x.toArray t) (.ref s.heap.objs.size)) Q E { s with heap := s.heap.push { cls := .type "slice", data := .fields #[.int v1 t1, .int v2 t2, .none] } } := by
  subst e1 e2
  have hl : p < x.length := (List.getElem?_eq_some_iff.mp hp).1
  refine slice_By hF hN (.int _ _) (.int _ _) hz (a := p) (b := p + 1) ?_ ?_ (fun h' t' k F' N' => ?_) hs ht
  · show clipAt _ _ = _
    rw [clipAt_nat]; omega
  · show clipAt x.length (((p + 1 : Nat) : Int)) = _
    rw [clipAt_nat]; omega
  · rw [one_of hp]; exact h h' t' k F' N'
end
section
open PySem.Builtin
variable {prog : Program} {w : World} {A : Around} {E : Value → Shared → Prop} {s : Shared} {t : Tok}
theorem find_type : typeOf (.builtin "bytes.find") = pure (.type "method_descriptor") := by show builtinType _ = _; rw [builtinType_eq_fast]; kernel_rfl
theorem method_find {M : Model} {b : Array UInt8} {pl : Sem Bool} {Q : Value × List Value → Shared → Prop} (h : Q (.builtin "bytes.find", [.bytes b t]) s) : wpAny M A (getMethod (.bytes b t) "find" pl) Q E s := by
  with_reducible exact KBd.method_of (.bytes b t) (typeIs_bytes _ _ _) find_slot find_type KBd.noRef h
theorem upper_slot : Slot "bytes" "upper" "bytes.upper" := .of (owner := "bytes") (n := "upper") (by rw [typeLookup_type, builtinLookup_eq_fast]; kernel_rfl) (by decide +kernel) (by decide +kernel) (by decide +kernel)
    (by first | exact .inl (by decide +kernel) | exact .inr (by decide +kernel)) (by rw [isSubtype_type]; kernel_rfl)
theorem upper_entry : entryFor table "bytes.upper" = some Builtin.«bytes.upper» := entryFor_of_tree (by kernel_rfl)
theorem upper_args (a : Value) : argsOk "bytes.upper" ⟨[a], []⟩ := by unfold argsOk; kernel_rfl
theorem upper_type : typeOf (.builtin "bytes.upper") = pure (.type "method_descriptor") := by show builtinType _ = _; rw [builtinType_eq_fast]; kernel_rfl
theorem method_upper {M : Model} {b : Array UInt8} {pl : Sem Bool} {Q : Value × List Value → Shared → Prop} (h : Q (.builtin "bytes.upper", [.bytes b t]) s) : wpAny M A (getMethod (.bytes b t) "upper" pl) Q E s := by
  with_reducible exact KBd.method_of (.bytes b t) (typeIs_bytes _ _ _) upper_slot upper_type KBd.noRef h
theorem upper_call {x : List UInt8} {Q : Value → Shared → Prop} (hx : x.length ≤ 1000) (h : ∀ t tk, Q (.bytes (x.map Bytes.toUpper).toArray t) { s with toks := tk }) :
    wpAny (model prog w) A (call (.builtin "bytes.upper") [.bytes x.toArray t]) Q E s := by
  refine wpAny_call_entry upper_slot (typeIs_bytes _ _ _) upper_entry ?_ (upper_args _)
  unfold Builtin.«bytes.upper» Bytes.mappedM
  refine wpAny_bind (wpAny_pure ?_)
  refine wpAny_bind (wpAny_of_eq (a := x.toArray) rfl ?_)
  refine wpAny_bind (wpAny_mkBytes (wpAny_pure ⟨_, rfl, h _ _⟩) ?_)
  rw [List.size_toArray, List.length_map]; show x.length ≤ sizeLine; unfold sizeLine; omega
theorem upper_lo {d : Int} (h0 : 0 ≤ d) (h1 : d < 36) : Bytes.toUpper (lo d) = up d := by
  have h : ∀ k : Fin 36, Bytes.toUpper (lo (k.val : Nat)) = up (k.val : Nat) := by decide +kernel
  have := h ⟨d.toNat, by omega⟩
  rw [show ((⟨d.toNat, by omega⟩ : Fin 36).val : Int) = d from Int.toNat_of_nonneg h0] at this
  exact this
end

/-! plain arithmetic of _law_ends -/
def tolds (b : Int) : Int → List Int → Int
  | _, [] => 0
  | j, d :: r => d + (36 - tval j b) * tolds b (j + 1) r
structure Figs (b j n : Int) (ds : List Int) : Prop where
  ne : 0 < ds.length
  d0 : ∀ d ∈ ds, 0 ≤ d ∧ d < 36
  more : ∀ (k : Nat) (d : Int), ds[k]? = some d → (tval (j + k) b ≤ d ↔ k + 1 < ds.length)
  told : tolds b j ds = n
  le : ∀ k : Nat, 0 ≤ tolds b (j + k) (ds.drop k) ∧ tolds b (j + k) (ds.drop k) ≤ n
theorem figs_of (b : Int) : ∀ (f : Nat) (j n : Int), 0 ≤ n → n < 10 ^ f → Figs b j n (encD b (f + 1) j n) := by
  intro f
  induction f with
  | zero =>
    intro j n h0 h1
    have ht := tval_bounds j b
    rw [encD, if_pos (by omega)]
    have hn : n = 0 := by omega
    subst hn
    refine ⟨by simp, by simp, ?_, by simp [tolds], ?_⟩
    · intro k d hk
      cases k with
      | zero => simp at hk; subst hk; simp; omega
      | succ k => simp at hk
    · intro k; cases k <;> simp [tolds]
  | succ f ih =>
    intro j n h0 h1
    have ht := tval_bounds j b
    rw [encD]
    split
    · rename_i hlt
      refine ⟨by simp, by simp; omega, ?_, by simp [tolds], ?_⟩
      · intro k d hk
        cases k with
        | zero => simp at hk; subst hk; simp; omega
        | succ k => simp at hk
      · intro k; cases k <;> simp [tolds] <;> omega
    · rename_i hge
      obtain ⟨e1, e2, e3, e4, e5⟩ := enc_step ht (N := n) (by omega)
      have hp : (10 : Int) ^ (f + 1) = 10 * 10 ^ f := by rw [Int.pow_succ]; omega
      have r := ih (j + 1) ((n - tval j b).fdiv (36 - tval j b)) e3 (by omega)
      generalize (n - tval j b).fdiv (36 - tval j b) = q at *
      generalize (n - tval j b).fmod (36 - tval j b) = m at *
      have hq : q ≤ n := by omega
      refine ⟨by simp, ?_, ?_, ?_, ?_⟩
      · intro d hd
        rcases List.mem_cons.mp hd with rfl | hd
        · omega
        · exact r.d0 d hd
      · intro k d hk
        cases k with
        | zero =>
          simp at hk; subst hk
          have := r.ne
          simp; omega
        | succ k =>
          have := r.more k d (by simpa using hk)
          rw [show j + ((k + 1 : Nat) : Int) = j + 1 + k by omega, this, List.length_cons]; omega
      · show _ + _ * tolds b (j + 1) _ = _
        rw [r.told]; omega
      · intro k
        cases k with
        | zero =>
          rw [List.drop_zero, show j + ((0 : Nat) : Int) = j by omega]
          show 0 ≤ _ + _ * tolds b (j + 1) _ ∧ _ + _ * tolds b (j + 1) _ ≤ _
          rw [r.told]; omega
        | succ k =>
          rw [List.drop_succ_cons, show j + ((k + 1 : Nat) : Int) = j + 1 + k by omega]
          have := r.le k
          omega
/-- the thresholds of the first k places -/
def leastsOf (b : Int) (k : Nat) : List Int := (List.range k).map fun i => tval (i : Nat) b
theorem leastsOf_len (b : Int) (k : Nat) : (leastsOf b k).length = k := by unfold leastsOf; simp
theorem leastsOf_succ (b : Int) (k : Nat) : leastsOf b (k + 1) = leastsOf b k ++ [tval k b] := by unfold leastsOf; rw [List.range_succ]; simp
theorem leastsOf_at (b : Int) {k i : Nat} (h : i < k) : (leastsOf b k)[i]? = some (tval i b) := by unfold leastsOf; simp [h]
theorem tolds_step (b : Int) {ds : List Int} {k : Nat} {d : Int} (h : ds[k]? = some d) : tolds b (0 + k) (ds.drop k) = d + (36 - tval k b) * tolds b (0 + (k + 1 : Nat)) (ds.drop (k + 1)) := by
  obtain ⟨hk, rfl⟩ := List.getElem?_eq_some_iff.mp h
  rw [List.drop_eq_getElem_cons hk]
  show _ + (36 - tval (0 + k) b) * tolds b (0 + k + 1) _ = _
  rw [show (0 : Int) + k = k by omega, show (0 : Int) + ((k + 1 : Nat) : Int) = k + 1 by omega]
theorem perm_sum {a b : List Int} (h : a.Perm b) : a.foldr (· + ·) 0 = b.foldr (· + ·) 0 := by
  induction h with
  | nil => rfl
  | cons x _ ih => simp only [List.foldr_cons, ih]
  | swap x y l => simp only [List.foldr_cons]; omega
  | trans _ _ h1 h2 => rw [h1, h2]
/-- the middle of 1, 26 and v -/
theorem mid_of {j b : Int} {ns : List Int} (hp : ns.Perm [1, 26, 36 * (j + 1) - b]) (hs : ns.Pairwise (· ≤ ·)) : ns.getD 1 0 = tval j b := by
  unfold tval
  generalize 36 * (j + 1) - b = v at *
  have hl := hp.length_eq
  match ns, hl with
  | [x, y, z], _ =>
    have h1 : ∀ q, List.count q [x, y, z] = List.count q [1, 26, v] := fun q => hp.count_eq q
    have hx := hp.mem_iff (a := x)
    have hy := hp.mem_iff (a := y)
    have hz := hp.mem_iff (a := z)
    have k1 := hp.mem_iff (a := 1)
    have k2 := hp.mem_iff (a := 26)
    have k3 := hp.mem_iff (a := v)
    simp at hx hy hz k1 k2 k3 hs
    have hsum : x + y + z = 1 + 26 + v := by
      have := perm_sum hp
      simp at this
      omega
    show y = _
    repeat' split
    all_goals omega
/-- the bias behind some numbers -/
def biasAt (bl : Int) : Nat → Int → List Int → Int
  | _, b, [] => b
  | k, _, N :: r => biasAt bl (k + 1) (adaptv N (k == 0) (bl + k + 1)) r
theorem encAll_append (sg : Int → UInt8) (bl : Int) : ∀ (xs ys : List Int) (k : Nat) (b : Int), encAll sg bl k b (xs ++ ys) = encAll sg bl k b xs ++ encAll sg bl (k + xs.length) (biasAt bl k b xs) ys
  | [], ys, k, b => rfl
  | N :: r, ys, k, b => by
    rw [List.cons_append, encAll, encAll, encAll_append sg bl r ys, List.append_assoc, List.length_cons, show k + 1 + r.length = k + (r.length + 1) by omega]
    rfl
theorem biasAt_snoc (bl N : Int) : ∀ (xs : List Int) (k : Nat) (b : Int), biasAt bl k b (xs ++ [N]) = adaptv N (k + xs.length == 0) (bl + (k + xs.length : Nat) + 1)
  | [], k, b => rfl
  | M :: r, k, b => by
    show biasAt bl (k + 1) _ (r ++ [N]) = _
    rw [biasAt_snoc bl N r, List.length_cons, show k + 1 + r.length = k + (r.length + 1) by omega]
/-- where the numerals end -/
def endsOf (bl : Int) (ns : List Int) (k : Nat) : List Int := (List.range k).map fun i => ((encAll lo bl 0 72 (ns.take i)).length : Int)
theorem endsOf_succ (bl : Int) (ns : List Int) (k : Nat) : endsOf bl ns (k + 1) = endsOf bl ns k ++ [((encAll lo bl 0 72 (ns.take k)).length : Int)] := by unfold endsOf; rw [List.range_succ]; simp
theorem ints_more {vs : List Value} {ns : List Int} (h : IntsAre vs ns) (n : Int) (t : Tok) : IntsAre (vs ++ [.int n t]) (ns ++ [n]) := by
  induction h with
  | nil => exact .cons n t .nil
  | cons m u _ ih => exact .cons m u ih
structure LeS where
  p : Nat
  bias : Int
  vs : List Value
  n : Nat
structure LeI (bl : Int) (ns : List Int) (i : Nat) (c : LeS) : Prop where
  p : c.p = (encAll lo bl 0 72 (ns.take i)).length
  bias : c.bias = biasAt bl 0 72 (ns.take i)
  vs : IntsAre c.vs (endsOf bl ns (i + 1))
  b0 : 0 ≤ c.bias
  b1 : c.bias ≤ 72
/-- what a turn meets -/
structure LeT (bl : Int) (ns : List Int) (i : Nat) (c : LeS) (N : Int) (ds : List Int) : Prop where
  is : ds = encD c.bias 8 0 N
  num : ns[i]? = some N
  figs : Figs c.bias 0 N ds
  len : ds.length ≤ 8
  all : encAll lo bl 0 72 ns = encAll lo bl 0 72 (ns.take i) ++ ds.map lo ++ encAll lo bl (i + 1) (adaptv N (i == 0) (bl + i + 1)) (ns.drop (i + 1))
  p : c.p + ds.length ≤ (encAll lo bl 0 72 ns).length
theorem le_turn {bl : Int} {ns : List Int} {i : Nat} {c : LeS} {N : Int} (hN : 0 ≤ N ∧ N < 2000) (I : LeI bl ns i c) (hi : ns[i]? = some N) : ∃ ds, LeT bl ns i c N ds := by
  obtain ⟨hlt, e⟩ := List.getElem?_eq_some_iff.mp hi
  have hall : encAll lo bl 0 72 ns = encAll lo bl 0 72 (ns.take i) ++ (encD c.bias 8 0 N).map lo ++ encAll lo bl (i + 1) (adaptv N (i == 0) (bl + i + 1)) (ns.drop (i + 1)) := by
    have h1 := encAll_append lo bl (ns.take i) (ns.drop i) 0 72
    rw [List.take_append_drop, ← I.bias, List.drop_eq_getElem_cons hlt, e, encAll, List.length_take, Nat.min_eq_left (Nat.le_of_lt hlt), Nat.zero_add] at h1
    rw [h1, List.append_assoc]
  refine ⟨_, rfl, hi, figs_of c.bias 7 0 N hN.1 (by have : (2000 : Int) ≤ 10 ^ 7 := by decide
                                                    omega), encD_len _ _ _ _, hall, ?_⟩
  rw [hall, I.p, List.length_append, List.length_append, List.length_map]
  omega
theorem le_octet {bl : Int} {ns : List Int} {i : Nat} {c : LeS} {N : Int} {ds : List Int} (I : LeI bl ns i c) (t : LeT bl ns i c N ds) {k : Nat} {d : Int} (hk : ds[k]? = some d) : (encAll lo bl 0 72 ns)[c.p + k]? = some (lo d) := by
  have hkl : k < ds.length := (List.getElem?_eq_some_iff.mp hk).1
  rw [t.all, I.p, List.append_assoc, List.getElem?_append_right (Nat.le_add_right _ _), Nat.add_sub_cancel_left, List.getElem?_append_left (by rw [List.length_map]; exact hkl), List.getElem?_map, hk]
  rfl
theorem le_next {bl : Int} {ns : List Int} {i n : Nat} {c : LeS} {N : Int} {ds : List Int} {t : Tok} (hN : 0 ≤ N ∧ N < 2000) (hb : 0 ≤ bl) (I : LeI bl ns i c) (h : LeT bl ns i c N ds) :
    LeI bl ns (i + 1) ⟨c.p + ds.length, adaptv N (i == 0) (bl + i + 1), c.vs ++ [.int ((c.p + ds.length : Nat) : Int) t], n⟩ := by
  have hlt : i < ns.length := (List.getElem?_eq_some_iff.mp h.num).1
  have htk : ns.take (i + 1) = ns.take i ++ [N] := by rw [List.take_add_one, h.num]; rfl
  have hl : (ns.take i).length = i := by rw [List.length_take]; omega
  have hp : c.p + ds.length = (encAll lo bl 0 72 (ns.take (i + 1))).length := by
    rw [htk, encAll_append, ← I.bias, List.length_append, ← I.p, encAll, encAll, List.append_nil, List.length_map, ← h.is]
  have ab := adaptv_bounds (first := i == 0) (nc := bl + i + 1) hN (by omega)
  refine ⟨hp, ?_, ?_, ab.1, ab.2⟩
  · dsimp only; rw [htk, biasAt_snoc, hl, Nat.zero_add]
  · dsimp only; rw [endsOf_succ, ← hp]; exact ints_more I.vs _ t
theorem figs_no {b N : Int} {ds : List Int} (G : Figs b 0 N ds) : ds.any (· == -1) = false := by
  rw [List.any_eq_false]
  intro d hd e
  have h := (G.d0 d hd).1
  rw [eq_of_beq e] at h
  exact absurd h (by decide)
theorem rev_at {l : List Int} {i : Nat} {x : Int} (hi : i < l.length) (h : l.reverse[i]? = some x) : l[l.length - 1 - i]? = some x := by
  rw [← h, List.getElem?_reverse hi]
/-- what a turn of the reading back meets -/
structure TdT (b : Int) (ds : List Int) (i : Nat) (told x y : Int) : Prop where
  next : x + (36 - y) * told = tolds b (0 + (ds.length - (i + 1) : Nat)) (ds.drop (ds.length - (i + 1)))
  y0 : 1 ≤ y
  y1 : y ≤ 26
  t0 : 0 ≤ told
  t1 : told < 2000
theorem td_turn {b N told x y : Int} {ds : List Int} {i : Nat} (G : Figs b 0 N ds) (hN : N < 2000) (hi : i < ds.length) (hI : told = tolds b (0 + (ds.length - i : Nat)) (ds.drop (ds.length - i)))
    (h1 : ds.reverse[i]? = some x) (h2 : (leastsOf b ds.length).reverse[i]? = some y) : TdT b ds i told x y := by
  have e1 := rev_at hi h1
  have e2 := rev_at (l := leastsOf b ds.length) (by rw [leastsOf_len]; exact hi) h2
  rw [leastsOf_len, leastsOf_at b (by omega)] at e2
  have hk : ds.length - 1 - i = ds.length - (i + 1) := by omega
  rw [hk] at e1 e2
  have hs := tolds_step b e1
  have hk2 : ds.length - (i + 1) + 1 = ds.length - i := by omega
  rw [hk2, ← hI] at hs
  cases e2
  have hb := tval_bounds ((ds.length - (i + 1) : Nat) : Int) b
  have hl := G.le (ds.length - i)
  rw [← hI] at hl
  exact ⟨hs.symm, hb.1, hb.2, hl.1, by omega⟩

structure LwS where
  k : Nat
  fv : List Value
  n1 : Nat
  lv : List Value
  n2 : Nat
structure LwI (b : Int) (ds : List Int) (c : LwS) : Prop where
  k : c.k ≤ ds.length
  fv : IntsAre c.fv (ds.take c.k)
  lv : IntsAre c.lv (leastsOf b c.k)
theorem lw_len {b : Int} {ds : List Int} {c : LwS} (J : LwI b ds c) : c.fv.length = c.k ∧ c.lv.length = c.k := by
  have h1 := J.fv.length
  have h2 := J.lv.length
  have := J.k
  rw [List.length_take] at h1
  rw [leastsOf_len] at h2
  omega
theorem lw_last {b N : Int} {ds : List Int} {c : LwS} (J : LwI b ds c) (G : Figs b 0 N ds) (h : 1 ≤ c.k) :
    (leastsOf b c.k).getD (-1 + ((leastsOf b c.k).length : Int)).toNat 0 ≤ (ds.take c.k).getD (-1 + ((ds.take c.k).length : Int)).toNat 0 ↔ c.k < ds.length := by
  have hk := J.k
  have h1 : (-1 + ((leastsOf b c.k).length : Int)).toNat = c.k - 1 := by rw [leastsOf_len]; omega
  have h2 : (-1 + ((ds.take c.k).length : Int)).toNat = c.k - 1 := by rw [List.length_take]; omega
  have hlt : c.k - 1 < ds.length := by omega
  have h3 : ds[c.k - 1]? = some ds[c.k - 1] := List.getElem?_eq_getElem hlt
  have h4 := G.more (c.k - 1) _ h3
  rw [h1, h2, List.getD_eq_getElem?_getD, List.getD_eq_getElem?_getD, leastsOf_at b (by omega), List.getElem?_take_of_lt (by omega), h3]
  show tval ((c.k - 1 : Nat) : Int) b ≤ ds[c.k - 1] ↔ _
  rw [show (0 : Int) + ((c.k - 1 : Nat) : Int) = ((c.k - 1 : Nat) : Int) by omega] at h4
  rw [h4]; omega
theorem lw_next {b : Int} {ds : List Int} {c : LwS} {t1 t2 : Tok} {n1 n2 : Nat} {x : Int} (J : LwI b ds c) (hx : ds[c.k]? = some x) : LwI b ds ⟨c.k + 1, c.fv ++ [.int x t1], n1, c.lv ++ [.int (tval c.k b) t2], n2⟩ := by
  refine ⟨(List.getElem?_eq_some_iff.mp hx).1, ?_, ?_⟩
  · dsimp only; rw [List.take_add_one, hx]; exact ints_more J.fv x t1
  · dsimp only; rw [leastsOf_succ]; exact ints_more J.lv _ t2
theorem eq_nil {prog : Program} {w : World} {A : Around} {E : Value → Shared → Prop} {s : Shared} {a e : Addr} {vs : List Value} {Q : Value → Shared → Prop} (ha : s.heap.IsList a vs.toArray) (he : s.heap.IsList e #[]) (hu : A.units < cLine)
    (h : Q (.bool (vs.length == 0)) s) : wpAny (model prog w) A (compareOp .Eq (.ref a) (.ref e)) Q E s := by
  cases vs with
  | nil => exact PySem.SeqAt.eq_listAt (e := fun _ => true) ha he rfl hu (fun j h1 => absurd h1 (Nat.not_lt_zero j)) h
  | cons v r => exact PySem.SeqAt.eq_list_lengthsAt ha he (by simp) hu h
/-- a test is asked first, with a small post -/
def Asked (s : Shared) (h₀ : Heap) (L : Addr) (m : Str → Option Value) (news : List (Addr × Obj)) (b0 : Bool) (b : Bool) (s₂ : Shared) : Prop := b = b0 ∧ ∃ h' tk', s₂ = { s with heap := h', toks := tk' } ∧ Fr h₀ L h' m ∧ News h₀ L h' news
theorem ask {M : Model} {A : Around} {E : Value → Shared → Prop} {s : Shared} {h₀ : Heap} {L : Addr} {m : Str → Option Value} {news : List (Addr × Obj)} {Q : Bool → Shared → Prop} {c : Sem Bool} (b0 : Bool) (F : Fr h₀ L s.heap m) (N : News h₀ L s.heap news)
    (h : wpAny M A c (Asked s h₀ L m news b0) (fun _ _ => False) s) (k : ∀ h' tk', Fr h₀ L h' m → News h₀ L h' news → Q b0 { s with heap := h', toks := tk' }) : wpAny M A c Q E s :=
  wpAny_mono h (fun b s₂ q => by obtain ⟨rfl, h', tk', rfl, f, n⟩ := q; exact k h' tk' f n) fun _ _ y => y.elim
theorem len_By {prog : Program} {w : World} {A : Around} {E : Value → Shared → Prop} {s : Shared} {x : List UInt8} {t : Tok} {Q : Value → Shared → Prop} (hx : x.length ≤ 100) (h : ∀ t tk, Q (.int x.length t) { s with toks := tk }) : wpAny (model prog w) A (call (.builtin "len") [.bytes x.toArray t]) Q E s :=
  len_bytes (by rw [List.size_toArray]; omega) (by rw [List.size_toArray]; exact h _ _)
theorem room_here {dp un lv : Nat} {gd : Option (List Code)} {outer : List Env} (h : Room dp un lv) : (Ar dp un gd outer).units < cLine := by
  have := h.2
  exact Nat.lt_of_le_of_lt (Nat.le_add_right _ _) this
theorem allLt_ne {d : Addr} : ∀ {l : List (Addr × Obj)}, AllLt d l → ∀ p ∈ l, p.1 ≠ d
  | [], _, _, hp => nomatch hp
  | q :: r, h, p, hp => by
    rcases List.mem_cons.mp hp with rfl | hp
    · exact Nat.ne_of_lt h.1
    · exact allLt_ne h.2 p hp
theorem ends_tells (w : World) (mean : ExcName → Option Value) (mg mb : Str → Option Value) (bl : Int) (ns : List Int) (l : Addr) (t1 t2 : Tok) (hns : ∀ n ∈ ns, 0 ≤ n ∧ n < 2000) (hl : ns.length ≤ 8) (hb : 0 ≤ bl ∧ bl ≤ 8) :
    Tells w mean mg mb 2 147 [.bytes (encAll lo bl 0 72 ns).toArray t1, .int bl t2, .ref l] (fun h => IntList h l ns)
      (fun v h h' => ∃ a o, v = .ref a ∧ h.get? a = none ∧ h'.get? a = some o ∧ ∃ vs n, o = listOf vs.toArray n ∧ IntsAre vs (endsOf bl ns (ns.length + 1))) := by
  unfold Tells
  k_fill
  intro dp un gd outer base s Q E B X T hpre hroom hret
  obtain ⟨lv, hll, hli⟩ := hpre
  refine enter [("octets", .bytes (encAll lo bl 0 72 ns).toArray t1), ("size", .int bl t2), ("numbers", .ref l)] (by assumption) (by assumption) (by assumption) (Room.here (by assumption)) (by k_is) (by k_is) (by exact rfl) (by exact rfl) (by exact rfl) ?_ (by decide) (by exact rfl) (by exact rfl) (by exact rfl)
  intro L h₁ tk u F N
  k_fold
  k_extra "go2"
  rename News _ _ _ _ => N1
  refine name1 N1 ?_
  intro el hel
  subst hel
  refine wpAny_For ?_ (by intro _; rfl)
  k_extra "go2"
  have helL : el ≠ l := fun e => by
    obtain ⟨o, ho, _⟩ := hll
    rw [← e, N1.fresh (.head _)] at ho; cases ho
  refine for_enumE (σ := LeS) (vs := lv) rfl (hll.at fun o e => Fr.keep (by assumption) _ _ e) (base_ne (by assumption) hll) (by assumption) N1 (by decide) (LeI bl ns) (fun c => [(el, listOf c.vs.toArray c.n)])
    (fun c => [("octets", .y (encAll lo bl 0 72 ns).toArray), ("size", .i bl), ("numbers", .r l), ("ends", .r el), ("place", .i c.p), ("bias", .i c.bias)]) [el] (fun _ => rfl) ⟨0, 72, _, 0⟩ (by k_extra "has") (fun p hp => hp) ⟨rfl, rfl, .cons _ _ .nil, by dsimp only; decide, by dsimp only; decide⟩ ?_ ?_ (by passes_own) rfl rfl rfl
  · intro i v t c u TT h tk own Z ZR ZN hv hI hown F9 N9
    obtain ⟨N0, tn, hn0, rfl⟩ := ints_at hli hv
    have hN := hns N0 (List.mem_of_getElem? hn0)
    obtain ⟨ds, lt⟩ := le_turn hN hI hn0
    have o1 := hown el (.head _) helL
    dsimp only [vals, Dv.v, List.cons_append, List.nil_append] at F9 N9
    clear hown N1
    k_extra "go2"
    rename_i fl _ hf1 _ _ ll _ hl1
    have hpl := lt.p
    have hxl := encAll_len lo bl ns 0 72
    refine while_ruleW (σ := LwS) (LwI c.bias ds) (fun d => (ll, listOf d.lv.toArray d.n2) :: (fl, listOf d.fv.toArray d.n1) :: (el, listOf c.vs.toArray c.n) :: own)
      (fun d => [("octets", .y (encAll lo bl 0 72 ns).toArray), ("size", .i bl), ("numbers", .r l), ("ends", .r el), ("place", .i (c.p + d.k)), ("bias", .i c.bias), ("i", .i i), ("number", .i N0), ("figures", .r fl), ("leasts", .r ll)])
      (fun d => ds.length - d.k) ⟨0, [], 0, [], 0⟩ F' N' (by k_extra "has") (fun p hp => hp) ⟨Nat.zero_le _, .nil, .nil⟩ ?_ (by passes_own)
    intro d u2 TT2 h2 tk2 W WR WN hJ F2 N2
    clear F' N'
    dsimp only [vals, Dv.v] at F2 N2
    refine ask (s := { s with heap := h2, toks := tk2 }) (decide (d.k < ds.length)) F2 N2 ?_ ?_
    · k_extra "go2"
      refine len_By (by omega) fun t3 tk3 => ?_
      k_extra "go2"
      · rename Fr _ _ _ _ => F3
        rename News _ _ _ _ => N3
        refine eq_nil (PySem.IsL.isList (n := d.n1) (N3.get (.tail _ (.tail _ (.head _))))) (PySem.IsL.isList (n := 0) (N3.get (.head _))) (room_here (lv := 1) (Room.down hroom rfl)) ?_
        have hk := lw_len hJ
        k_extra "go2"
        · rename (d.fv.length == 0) = true => h0
          have h0 := eq_of_beq h0
          have hne := lt.figs.ne
          exact ⟨(decide_eq_true (by omega)).symm, _, _, rfl, F3, fun p hp => N3 p (.tail _ hp)⟩
        · have hk1 : 1 ≤ d.k := Nat.pos_of_ne_zero fun e => by
            rename (d.fv.length == 0) = false => h0
            rw [show d.fv.length = 0 by omega] at h0; cases h0
          have hlast := lw_last hJ lt.figs hk1
          have hf9 := hJ.fv.length
          have hl9 := hJ.lv.length
          refine PyProof.Rows.item_list_ints_negR (PySem.IsL.isList (n := d.n1) (N3.get (.tail _ (.tail _ (.head _))))) hJ.fv (by decide) (by omega) (by decide) fun t4 => ?_
          k_extra "go2"
          refine PyProof.Rows.item_list_ints_negR (PySem.IsL.isList (n := d.n2) (N3.get (.tail _ (.head _)))) hJ.lv (by decide) (by omega) (by decide) fun t5 => ?_
          k_extra "go2"
          · exact ⟨(decide_eq_true (hlast.mp (by assumption))).symm, _, _, rfl, F3, fun p hp => N3 p (.tail _ hp)⟩
          · exact ⟨(decide_eq_false fun q => absurd (hlast.mpr q) (by assumption)).symm, _, _, rfl, F3, fun p hp => N3 p (.tail _ hp)⟩
      · exact ⟨(decide_eq_false (by omega)).symm, _, _, rfl, F2, N2⟩
    · clear F2 N2
      intro h3 tk3 F3 N3
      by_cases hk : d.k < ds.length
      · rw [decide_eq_true hk]
        refine (if_pos rfl).mpr ?_
        have hkl := lw_len hJ
        have hd8 := lt.len
        have hfl : d.fv.length ≤ 1000 := by omega
        have hb0 := hI.b0
        have hb1 := hI.b1
        have o2 := allLt_ne hl1.2.2
        have o3 := allLt_ne hf1.2
        have hdk : ds[d.k]? = some ds[d.k] := List.getElem?_eq_getElem hk
        have hoct := le_octet hI lt hdk
        have hd0 := lt.figs.d0 _ (List.getElem_mem hk)
        k_extra "go2"
        rename Fr _ _ _ _ => F4
        rename News _ _ _ _ => N4
        refine PyProof.Rows.sorted_N F4 N4 (PySem.IsL.isList (n := 0) (N4.get (.head _))) (.cons _ _ (.cons _ _ (.cons _ _ .nil))) (by show 3 < 64; decide) fun h5 vs5 ns5 e5 F5 N5 hi5 hp5 hs5 => ?_
        have hl5 := hp5.length_eq
        k_extra "go2"
        refine PyProof.Rows.item_list_intsR (News.isList N5 (.head _)) hi5 (by decide) (by rw [hl5]; show (1 : Int) < 3; decide) (by decide) fun t6 => ?_
        rw [show ns5.getD (1 : Int).toNat 0 = tval d.k c.bias from by rw [← hkl.1]; exact mid_of hp5 hs5]
        have N6 : News s.heap L h5 ((ll, listOf d.lv.toArray d.n2) :: (fl, listOf d.fv.toArray d.n1) :: (el, listOf c.vs.toArray c.n) :: own) := fun p hp => N5 p (.tail _ (.tail _ hp))
        clear F4 N4 N5 hp5 hs5 hi5 hl5
        k_extra "go2"
        refine method_find ?_
        k_extra "go2"
        refine octet_By (s := ⟨_, _, _, _, _⟩) (p := c.p + d.k) (Int.natCast_add _ _).symm (by rw [Int.natCast_add]) F' N' hoct (by omega) fun h7 t7 k7 F7 N7 => ?_
        clear F' N'
        k_extra "go2"
        refine find_call hd0.1 hd0.2 fun t8 k8 => ?_
        k_extra "go2"
        refine WN ⟨d.k + 1, _, d.n1 + 1, _, d.n2 + 1⟩ _ _ _ _ F' N' (fun p hp => hp) ?_ (lw_next hJ hdk) (by dsimp only; omega)
        dsimp only
        rw [show (c.p : Int) + ((d.k + 1 : Nat) : Int) = c.p + d.k + 1 by omega]
        k_extra "has"
      · rw [decide_eq_false hk]
        refine (if_neg Bool.false_ne_true).mpr ?_
        clear WR WN
        have hke : d.k = ds.length := Nat.le_antisymm hJ.k (Nat.le_of_not_lt hk)
        have hkl := lw_len hJ
        have hne := lt.figs.ne
        have hlast := lw_last hJ lt.figs (by omega)
        have hf9 := hJ.fv.length
        have hl9 := hJ.lv.length
        k_extra "go2"
        rename Fr _ _ _ _ => F4
        rename News _ _ _ _ => N4
        refine eq_nil (PySem.IsL.isList (n := d.n1) (N4.get (.tail _ (.tail _ (.head _))))) (PySem.IsL.isList (n := 0) (N4.get (.head _))) (room_here (lv := 1) (Room.down hroom rfl)) ?_
        rw [show (d.fv.length == 0) = false from beq_eq_false_iff_ne.mpr (by omega)]
        k_extra "go2"
        refine PyProof.Rows.item_list_ints_negR (PySem.IsL.isList (n := d.n1) (N4.get (.tail _ (.tail _ (.head _))))) hJ.fv (by decide) (by omega) (by decide) fun t4 => ?_
        k_extra "go2"
        refine PyProof.Rows.item_list_ints_negR (PySem.IsL.isList (n := d.n2) (N4.get (.tail _ (.head _)))) hJ.lv (by decide) (by omega) (by decide) fun t5 => ?_
        have hnl := mt hlast.mp hk
        clear hlast
        k_extra "go2"
        have hfd := hJ.fv
        have hld := hJ.lv
        rw [hke] at hld
        rw [List.take_of_length_le (by omega)] at hfd
        refine PyProof.Rows.in_list_ints (PySem.IsL.isList (n := d.n1) (N4.get (.tail _ (.tail _ (.head _))))) hfd ?_
        rw [figs_no lt.figs]
        have N6 : News s.heap L _ ((ll, listOf d.lv.toArray d.n2) :: (fl, listOf d.fv.toArray d.n1) :: (el, listOf c.vs.toArray c.n) :: own) := fun p hp => N4 p (.tail _ hp)
        clear N4 hnl hf9 hl9 hJ
        k_extra "go2"
        refine wpAny_For ?_ (by intro _; rfl)
        k_extra "go2"
        rename IntsAre _ (leastsOf c.bias ds.length).reverse => hi2
        rename IntsAre _ ds.reverse => hi1
        rename Fr _ _ _ _ => F7
        rename News _ _ _ _ => N7
        have hn8 := hi1.length
        have hn9 := hi2.length
        rw [List.length_reverse] at hn8 hn9
        rw [leastsOf_len] at hn9
        refine zip_src (((el, listOf c.vs.toArray c.n) :: own).map (·.1)) rfl (PySem.IsL.isList (n := 0) (N7.get (.tail _ (.head _)))) (PySem.IsL.isList (n := 0) (N7.get (.head _))) ⟨(N7 _ (.tail _ (.head _))).2.1, (N7 _ (.head _)).2.1⟩ F7 N7 ?_ fun I h8 F8 N8 S8 => ?_
        · intro b hb
          obtain ⟨p, hp, rfl⟩ := List.mem_map.mp hb
          exact ⟨p, .tail _ (.tail _ (.tail _ (.tail _ hp))), rfl⟩
        rw [hn8, hn9, Nat.min_self] at S8
        clear F7 N7
        refine forT_E (σ := Int) (s := { s with heap := h8, toks := _ }) rfl F8 N8 (by decide) (fun i told => told = tolds c.bias (0 + (ds.length - i : Nat)) (ds.drop (ds.length - i))) (fun _ => (el, listOf c.vs.toArray c.n) :: own)
          (fun told => [("octets", .y (encAll lo bl 0 72 ns).toArray), ("size", .i bl), ("numbers", .r l), ("ends", .r el), ("place", .i (c.p + d.k)), ("i", .i i), ("number", .i N0), ("told", .i told)]) _ (fun _ => rfl) S8 0 (by k_extra "has") (fun p hp => .tail _ (.tail _ (.tail _ (.tail _ hp)))) ?_ ?_ ?_ (by passes_own) rfl rfl rfl
        · rw [Nat.sub_zero, List.drop_of_length_le (Nat.le_refl _)]
          rfl
        · rintro j v1 v2 told u9 TT9 h9 tk9 own9 Z9 ZR9 ZN9 ⟨hv1, hv2⟩ hj hT - F9 N9
          obtain ⟨x, tx, hx, rfl⟩ := ints_at hi1 hv1
          obtain ⟨y, ty, hy, rfl⟩ := ints_at hi2 hv2
          have td := td_turn lt.figs hN.2 hj hT hx hy
          have d1 := td.y0
          have d2 := td.y1
          have d3 := td.t0
          have d4 := td.t1
          dsimp only [vals, Dv.v, List.cons_append, List.nil_append] at F9 N9
          clear F8 N8
          k_extra "go2"
          rw [td.next] at F'
          exact ZN9 _ _ _ _ _ F' N' (fun p hp => List.mem_append_left (as := (el, listOf c.vs.toArray c.n) :: own) own9 hp) (fun p hp => List.mem_append_right ((el, listOf c.vs.toArray c.n) :: own) hp) (by k_extra "has") rfl
        · intro told u9 TT9 h9 tk9 hT F9 N9
          have hT2 : told = N0 := by
            rw [hT, Nat.sub_self, ← lt.figs.told]
            rfl
          subst hT2
          dsimp only [vals, Dv.v, List.cons_append, List.nil_append] at F9 N9
          clear F8 N8
          have hvl : c.vs.length < 100000 := by
            have := hI.vs.length
            unfold endsOf at this
            rw [List.length_map, List.length_range] at this
            have := (List.getElem?_eq_some_iff.mp hn0).1
            omega
          k_extra "go2"
          · exact absurd rfl (by assumption)
          rw [show (((i : Nat) : Int) == 0) = (i == 0) by cases i <;> rfl]
          refine Tells.useI (lawbias_tells w mean mg mb told (bl + i + 1) (i == 0) _ _ hN (by have := (List.getElem?_eq_some_iff.mp hn0).1; omega)) B F' X N' T rfl trivial (Room.down hroom rfl) fun t9 h9 tk9 F10 N10 => ?_
          rw [hke, ← Int.natCast_add] at F10 N10
          clear F' N'
          k_extra "go2"
          exact ZN _ _ _ _ _ F' N' (fun p hp => by rw [List.mem_singleton.mp hp]; exact .head _) (fun p hp => .tail _ hp) (by k_extra "has") (le_next (n := c.n + 1) (t := TT9 (0 + 1 + 1 + 1 + 1)) hN hb.1 hI lt)
  · intro c u TT h tk hI F9 N9
    dsimp only [vals, Dv.v] at F9 N9
    have hxl := encAll_len lo bl ns 0 72
    have hcp := hI.p
    have hcv := hI.vs
    rw [hli.length] at hcp hcv
    rw [List.take_of_length_le (Nat.le_refl _)] at hcp
    k_extra "go2"
    refine len_By (by omega) fun t3 tk3 => ?_
    k_extra "go2"
    · exact hret _ _ _ F9.keep ⟨el, _, rfl, N9.fresh (.head _), N9.get (.head _), c.vs, c.n, rfl, hcv⟩
    · exfalso; omega

theorem setup_stop3 : True := by
  k_with "stop3" =>
    (fail_if_success (with_reducible show wpAny _ _ (subscriptTail _ _ (PySem.Value.ref _) (PySem.Value.int _ _)) _ _ _)
     fail_if_success (with_reducible show PyProof.Rows.LCg.CompSrc _ _ _ _ _ _ _ (PySem.Expr.Call _ _ _ _) _ _ _ _ _ _)
     fail_if_success (with_reducible show PyProof.Rows.LCg.CompSrc _ _ _ _ _ _ _ (PySem.Expr.BinOp (PySem.Expr.Name "x" _) _ _ _) _ _ _ _ _ _)
     fail_if_success (with_reducible show wpAny _ _ (PySem.eval (PySem.Expr.ListComp _ _ _ _) _) _ _ _)
     fail_if_success (with_reducible show wpAny _ _ (PySem.call (PySem.Value.builtin "sum") _) _ _ _)
     fail_if_success (with_reducible show wpAny _ _ (PySem.binaryOp PySem.Operator.Add (PySem.Value.ref _) (PySem.Value.ref _)) _ _ _)
     fail_if_success (with_reducible show wpAny _ _ (PySem.compareOp PySem.CmpOp.NotEq (PySem.Value.ref _) (PySem.Value.ref _)) _ _ _)
     fail_if_success (with_reducible show wpAny _ _ (PySem.compareOp PySem.CmpOp.NotEq (PySem.Value.bytes _ _) (PySem.Value.bytes _ _)) _ _ _)
     fail_if_success (with_reducible show wpAny _ _ (PySem.call (PySem.Value.ref _) _) _ _ _)
     fail_if_success (with_reducible show wpAny _ _ (PySem.call (PySem.Value.builtin "max") _) _ _ _)
     fail_if_success (with_reducible show wpAny _ _ (PySem.call (PySem.Value.type "list") _) _ _ _)
     fail_if_success (with_reducible show wpAny _ _ (PySem.call (PySem.Value.builtin "str.join") _) _ _ _)
     fail_if_success (with_reducible show wpAny _ _ (PySem.call (PySem.Value.ref 98) _) _ _ _)
     fail_if_success (with_reducible show wpAny _ _ (PySem.call (PySem.Value.ref 140) _) _ _ _)
     fail_if_success (with_reducible show wpAny _ _ (PySem.call (PySem.Value.ref 105) _) _ _ _)
     fail_if_success (with_reducible show wpAny _ _ (PySem.call (PySem.Value.ref 112) _) _ _ _)
     fail_if_success (with_reducible show wpAny _ _ (PySem.call (PySem.Value.ref 119) _) _ _ _)
     fail_if_success (with_reducible show wpAny _ _ (PySem.call (PySem.Value.ref 126) _) _ _ _)
     fail_if_success (with_reducible show wpAny _ _ (PySem.call (PySem.Value.ref 133) _) _ _ _)
     fail_if_success (with_reducible show wpAny _ _ (PySem.compareOp PySem.CmpOp.Eq (PySem.Value.ref _) (PySem.Value.ref _)) _ _ _)
     fail_if_success (with_reducible show wpAny _ _ (PySem.compareOp PySem.CmpOp.In _ (PySem.Value.ref _)) _ _ _)
     fail_if_success (with_reducible show wpAny _ _ (PySem.call (PySem.Value.builtin "sorted") _) _ _ _)
     fail_if_success (with_reducible show wpAny _ _ (PySem.call (PySem.Value.builtin "bytes.find") _) _ _ _)
     fail_if_success (with_reducible show wpAny _ _ (subscriptTail _ _ (PySem.Value.bytes _ _) (PySem.Value.ref _)) _ _ _)
     fail_if_success (with_reducible show wpAny _ _ (PySem.call (PySem.Value.builtin "len") [PySem.Value.bytes _ _]) _ _ _))
  k_with "go3" => ((repeat' (first | (k_unfold; (try dsimp only)) | (k_extra "loop"; k_extra "stop3"; walk1) | (k_extra "loop"; dsimp only; k_extra "loop"; k_extra "stop3"; walk1))) <;> (try dsimp only))
  trivial
def dOf {q : Program} {loose : List Str} {XP : (Str → Option Value) → Heap → Prop} {YP : World → Heap → Prop} {r : RowW} {d : DefRec} {kwd : List (Str × Expr)} {P : Prop} (_ : WalkC q loose XP YP r d kwd → P) : DefRec := d
/-- the def of law -/
def lawD : DefRec := dOf hd
theorem sum_L {prog : Program} {w : World} {A : Around} {E : Value → Shared → Prop} {s : Shared} {h₀ : Heap} {L l : Addr} {m : Str → Option Value} {news : List (Addr × Obj)} {vs : List Value} {ns : List Int} {n : Nat} {Q : Value → Shared → Prop} (hh : A.handled = none) (F : Fr h₀ L s.heap m) (N : News h₀ L s.heap news)
    (hl : s.heap.get? l = some (listOf vs.toArray n)) (hi : IntsAre vs ns) (h : ∀ h' tk t', Fr h₀ L h' m → News h₀ L h' news → Q (.int ns.sum t') { s with heap := h', toks := tk }) : wpAny (model prog w) A (call (.builtin "sum") [.ref l]) Q E s := by
  have hl : s.heap.IsList l vs.toArray := PySem.IsL.isList (n := n) hl
  obtain ⟨xs, hx⟩ := hi.allInts.items
  have hn : numsOf vs.toArray.toList = ns := by rw [show vs.toArray.toList = vs from rfl, hi.numsOf]
  rw [hx] at hl hn
  rw [nums_intItems] at hn
  refine sum_intListG hh hl fun h' tk t' hk => ?_
  have := h h' tk t' (fr_stays F hk) (news_stays N hk)
  rw [preSum_eq, List.take_of_length_le (by simp), hn]
  exact this
theorem suf_at {k : Int} (h0 : 0 ≤ k) (h1 : k < 3) (a b c : Tok) : ∃ suf t, [Value.str (Str.ofString "") a, .str (Str.ofString "b-") b, .str (Str.ofString "b-a?z") c][k.toNat]? = some (.str (strOf suf) t) ∧ suf.length ≤ 5 ∧ (∀ x ∈ suf, x < 128) := by
  have h : k = 0 ∨ k = 1 ∨ k = 2 := by omega
  rcases h with rfl | rfl | rfl
  · exact ⟨[], a, by rfl, by decide, by decide⟩
  · exact ⟨[98, 45], b, by rw [show strOf [98, 45] = Str.ofString "b-" from by decide +kernel]; rfl, by decide, by decide⟩
  · exact ⟨[98, 45, 97, 63, 122], c, by rw [show strOf [98, 45, 97, 63, 122] = Str.ofString "b-a?z" from by decide +kernel]; rfl, by decide, by decide⟩
theorem pre_signs {ys : List Value} {xs : List Int} (hn : xs.length ≤ 3) (h : StrsAre ys (xs.map fun a => strOf [((a.fdiv 1200).fmod 128).toNat])) : ∃ pre, pre.length ≤ 3 ∧ (∀ c ∈ pre, c < 128) ∧ Signs ys pre := by
  refine ⟨xs.map fun k => ((k.fdiv 1200).fmod 128).toNat, by rw [List.length_map]; exact hn, ?_, ?_⟩
  · intro c hc
    obtain ⟨k, _, rfl⟩ := List.mem_map.mp hc
    have := Int.fmod_lt_of_pos (k.fdiv 1200) (b := 128) (by decide)
    omega
  · unfold Signs; rw [List.map_map]; exact h
theorem law_st2 (w : World) (mean : ExcName → Option Value) (mg mb : Str → Option Value) (xs : List Int) (fa : Addr) (cd : Value) {ys : List Value} {D : Addr} {n : Nat} (hl : xs.length ≤ 63) (hx : ∀ x ∈ xs, 0 ≤ x ∧ x < 1000000) (hys : IntsAre ys xs) :
    ∀ (dp un : Nat) (gd : Option (List Code)) (base h₀ : Heap) (L : Addr) (u : Str → Option Value) (s : Shared) (Q : Flow → Shared → Prop) (E : Value → Shared → Prop) (st : Stmt),
      Below (Ar dp un gd []) base [] h₀ → (hd.heap_39 w.params).In h₀ → TopF mean mg mb h₀ → Room dp un 6 → Fr h₀ L s.heap (ov [("draws", .ref D)] u) → News h₀ L s.heap [(D, listOf ys.toArray n)] → lawD.body[1]? = some st →
      (∀ txt t h' tk', txt.length ≤ 8 → (∀ c ∈ txt, c < 128) → Fr h₀ L h' (ov [("base", .str (strOf txt) t), ("draws", .ref D)] u) → News h₀ L h' [(D, listOf ys.toArray n)] → Q .next { s with heap := h', toks := tk' }) →
      wpAny (model PySem.Challenge.rw_nb0162_01.row.prog w) (Ar (dp + 1) (un + 3) gd [envOf "law" lawD.scope L fa cd]) (exec st (envOf "law" lawD.scope L fa cd)) Q E s := by
  k_fill
  intro dp un gd base h₀ L u s Q E st B X T hroom F N hst hret
  conv at hst => lhs; whnf
  obtain rfl := Option.some.inj hst
  clear hst
  generalize hsc : lawD.scope = scope
  conv at hsc => lhs; whnf
  subst hsc
  k_extra "go3"
  refine LCg.ListComp_U (F₀ := by k_asm) (by with_unfolding_all rfl) (by decide) (by rfl) (by decide) (by rfl) ?_
  k_extra "go3"
  have hn3 : (List.take 3 xs).length ≤ 3 := by rw [List.length_take]; omega
  refine LCg.CompSrc.ledger (by rfl) (by k_asm) (by k_asm) (by k_mem) (by have := (by assumption : IntsAre _ (List.take 3 xs)).length; rw [PySem.sizeLine_eq, List.size_toArray]; omega) ?_
  intro g'
  refine kct_list (fun k => strOf [((k.fdiv 1200).fmod 128).toNat]) (by assumption) (fun k' t' I' oI' C' oC' D' m' ys' h' tk' E' hk' hC' hx' F' N' off' ne' hMark' => ?_) ?_
  · k_extra "go3"
    exact ⟨_, _, _, rfl, by assumption, by assumption, by assumption, .inr ⟨_, .head _, rfl, _, rfl⟩, rfl, _, rfl⟩
  · intro ys9 hc9 hn9 D9 h9 tk9 F9 N9 O9
    have hs9 := CarriedAll.strsOf hc9
    obtain ⟨pre, hpl, hpx, hsg⟩ := pre_signs hn3 hs9
    k_extra "go3"
    refine join_signs (N9.get (.head _)) hsg (by omega) fun t11 tk11 => ?_
    k_extra "go3"
    rename Fr _ _ _ _ => F10
    rename News _ _ _ _ => N10
    refine sum_L rfl F10 N10 (N10.get (.tail _ (.tail _ (.tail _ (.head _))))) hys fun h12 tk12 t12 F12 N12 => ?_
    k_extra "go3"
    have hm0 := Int.fmod_nonneg_of_pos xs.sum (b := 3) (by decide)
    have hm1 := Int.fmod_lt_of_pos xs.sum (b := 3) (by decide)
    obtain ⟨suf, tsuf, hsuf, hsl, hsx⟩ := suf_at hm0 hm1 tk11 (tk11 + 1) (tk11 + 1 + 1)
    refine PyProof.Rows.item_listR (PySem.IsL.isList (n := 0) (N12.get (.head _))) hm0 (by omega) (x := .str (strOf suf) tsuf) (by simpa using hsuf) ?_
    k_extra "go3"
    rename Fr _ _ _ _ => F14
    rename News _ _ _ _ => N14
    refine hret _ _ _ _ ?_ ?_ F14 fun p hp => N14 p (by rw [List.mem_singleton.mp hp]; exact .tail _ (.tail _ (.tail _ (.head _))))
    · rw [List.length_append]; omega
    · intro c hc
      rcases List.mem_append.mp hc with hc | hc
      · exact hpx c hc
      · exact hsx c hc

theorem law_st1 (w : World) (mean : ExcName → Option Value) (mg mb : Str → Option Value) (ns : List Int) (l : Addr) (fa : Addr) (cd : Value) (hl : ns.length ≤ 63) :
    ∀ (dp un : Nat) (gd : Option (List Code)) (base h₀ : Heap) (L : Addr) (u : Str → Option Value) (s : Shared) (Q : Flow → Shared → Prop) (E : Value → Shared → Prop) (st : Stmt),
      Below (Ar dp un gd []) base [] h₀ → (hd.heap_39 w.params).In h₀ → TopF mean mg mb h₀ → IntList h₀ l ns → Room dp un 6 → Fr h₀ L s.heap (ov [("script", .ref l)] u) → News h₀ L s.heap [] → lawD.body[0]? = some st →
      (∀ xs ys D n u' h' tk', xs.length ≤ 63 → (∀ x ∈ xs, 0 ≤ x ∧ x < 1000000) → IntsAre ys xs → Fr h₀ L h' (ov [("draws", .ref D)] u') → News h₀ L h' [(D, listOf ys.toArray n)] → Q .next { s with heap := h', toks := tk' }) →
      wpAny (model PySem.Challenge.rw_nb0162_01.row.prog w) (Ar (dp + 1) (un + 3) gd [envOf "law" lawD.scope L fa cd]) (exec st (envOf "law" lawD.scope L fa cd)) Q E s := by
  k_fill
  intro dp un gd base h₀ L u s Q E st B X T hpre hroom F N hst hret
  obtain ⟨lv, hll, hli⟩ := hpre
  conv at hst => lhs; whnf
  obtain rfl := Option.some.inj hst
  clear hst
  generalize hsc : lawD.scope = scope
  conv at hsc => lhs; whnf
  subst hsc
  k_extra "go3"
  rename Fr _ _ _ _ => F3
  rename News _ _ _ _ => N3
  rename IntsAre _ (List.map _ _) => hI
  refine hret _ _ _ _ (ov [("script", .ref l)] u) _ _ ?_ ?_ hI F3 (fun p hp => N3 p (by rw [List.mem_singleton.mp hp]; exact .head _))
  · rw [List.length_map, List.length_take]; omega
  · intro x hx
    obtain ⟨k, _, rfl⟩ := List.mem_map.mp hx
    exact ⟨Int.fmod_nonneg_of_pos k (by decide), Int.fmod_lt_of_pos k (by decide)⟩

theorem pre_ints {ys : List Value} {xs : List Int} (hn : xs.length ≤ 4) (h : IntsAre ys (xs.map fun k => k.fmod 1200)) : ∃ pre, pre.length ≤ 4 ∧ (∀ x ∈ pre, 0 ≤ x ∧ x < 2000) ∧ IntsAre ys pre := by
  refine ⟨_, by rw [List.length_map]; exact hn, ?_, h⟩
  intro c hc
  obtain ⟨k, _, rfl⟩ := List.mem_map.mp hc
  have h1 := Int.fmod_lt_of_pos k (b := 1200) (by decide)
  have h0 := Int.fmod_nonneg_of_pos k (b := 1200) (by decide)
  omega
theorem law_st3 (w : World) (mean : ExcName → Option Value) (mg mb : Str → Option Value) (xs : List Int) (fa : Addr) (cd : Value) {ys : List Value} {D : Addr} {n : Nat} {b : Value} (hl : xs.length ≤ 63) (hys : IntsAre ys xs) :
    ∀ (dp un : Nat) (gd : Option (List Code)) (base h₀ : Heap) (L : Addr) (u : Str → Option Value) (s : Shared) (Q : Flow → Shared → Prop) (E : Value → Shared → Prop) (st : Stmt),
      Below (Ar dp un gd []) base [] h₀ → (hd.heap_39 w.params).In h₀ → TopF mean mg mb h₀ → Room dp un 6 → Fr h₀ L s.heap (ov [("base", b), ("draws", .ref D)] u) → News h₀ L s.heap [(D, listOf ys.toArray n)] → lawD.body[2]? = some st →
      (∀ pre vs D' n' h' tk', pre.length ≤ 7 → (∀ x ∈ pre, 0 ≤ x ∧ x < 2000) → IntsAre vs (pre ++ [700]) → Fr h₀ L h' (ov [("numbers", .ref D'), ("base", b), ("draws", .ref D)] u) → News h₀ L h' [(D', listOf vs.toArray n')] → Q .next { s with heap := h', toks := tk' }) →
      wpAny (model PySem.Challenge.rw_nb0162_01.row.prog w) (Ar (dp + 1) (un + 3) gd [envOf "law" lawD.scope L fa cd]) (exec st (envOf "law" lawD.scope L fa cd)) Q E s := by
  k_fill
  intro dp un gd base h₀ L u s Q E st B X T hroom F N hst hret
  conv at hst => lhs; whnf
  obtain rfl := Option.some.inj hst
  clear hst
  generalize hsc : lawD.scope = scope
  conv at hsc => lhs; whnf
  subst hsc
  k_extra "go3"
  refine LCg.ListComp_U (F₀ := by k_asm) (by with_unfolding_all rfl) (by decide) (by rfl) (by decide) (by rfl) ?_
  k_extra "go3"
  have hn4 : (List.take 4 xs).length ≤ 4 := by rw [List.length_take]; omega
  refine LCg.CompSrc.ledger (by rfl) (by k_asm) (by k_asm) (by k_mem) (by have := (by assumption : IntsAre _ (List.take 4 xs)).length; rw [PySem.sizeLine_eq, List.size_toArray]; omega) ?_
  intro g'
  refine kcf_list (fun k => k.fmod 1200) (by assumption) (fun k' t' I' oI' C' oC' D' m' ys' h' tk' E' hk' hC' hx' F' N' off' ne' hMark' => ?_) ?_
  · k_extra "go3"
  · intro ys9 hi9 D9 h9 tk9 F9 N9 O9
    obtain ⟨pre, hpl, hpx, hpi⟩ := pre_ints hn4 hi9
    have hpn := hpi.length
    k_extra "go3"
    refine PyProof.Rows.add_lists_ints (vs := [_, _, _]) (s := { s with heap := h9, toks := _ }) F9 N9 (PySem.IsL.isList (n := 0) (N9.get (.tail _ (.tail _ (.head _))))) (PySem.IsL.isList (n := _) (N9.get (.head _))) (.cons _ _ (.cons _ _ (.cons _ _ .nil))) hpi (fun h10 F10 N10 hi10 => ?_) (by rw [PySem.sizeLine_eq]; show 3 + _ ≤ _; omega)
    k_extra "go3"
    rename Fr _ _ _ _ => F11
    rename News _ _ _ _ => N11
    refine PyProof.Rows.add_lists_ints (ws := [_]) (s := ⟨_, _, _, _, _⟩) F11 N11 (PySem.IsL.isList (n := 0) (N11.get (.tail _ (.head _)))) (PySem.IsL.isList (n := 0) (N11.get (.head _))) hi10 (.cons _ _ .nil) (fun h12 F12 N12 hi12 => ?_) (by rw [PySem.sizeLine_eq, List.length_append]; simp only [List.length_cons, List.length_nil]; omega)
    k_extra "go3"
    rename Fr _ _ _ _ => F14
    rename News _ _ _ _ => N14
    refine hret ([1500, 3, 0] ++ pre) _ _ _ _ _ ?_ ?_ hi12 F14 (fun p hp => N14 p (by rw [List.mem_singleton.mp hp]; exact .head _))
    · rw [List.length_append]; simp only [List.length_cons, List.length_nil]; omega
    · intro x hx
      rcases List.mem_append.mp hx with hx | hx
      · simp at hx; omega
      · exact hpx x hx

theorem enc_upper (bl : Int) : ∀ (ns : List Int) (k : Nat) (b : Int), (∀ n ∈ ns, 0 ≤ n ∧ n < 2000) → (encAll lo bl k b ns).map PySem.Builtin.Bytes.toUpper = encAll up bl k b ns
  | [], _, _, _ => rfl
  | N :: r, k, b, h => by
    rw [encAll, encAll, List.map_append, enc_upper bl r _ _ fun n hn => h n (.tail _ hn), List.map_map]
    congr 1
    refine List.map_congr_left fun d hd => ?_
    have hN := h N (.head _)
    have G := figs_of b 7 0 N hN.1 (by have : (2000 : Int) ≤ 10 ^ 7 := by decide
                                       omega)
    have := G.d0 d hd
    exact upper_lo this.1 this.2
theorem law_mid (w : World) (mean : ExcName → Option Value) (mg mb : Str → Option Value) (txt : List Nat) (num : List Int) (fa : Addr) (cd : Value) {nv : List Value} {nA : Addr} {nn : Nat} {tb : Tok} (ht : txt.length ≤ 8) (hnum : ∀ x ∈ num, 0 ≤ x ∧ x < 2000) (hnl : num.length ≤ 8) (hnv : IntsAre nv num) :
    ∀ (dp un : Nat) (gd : Option (List Code)) (base h₀ : Heap) (L : Addr) (u : Str → Option Value) (s : Shared) (Q : Flow → Shared → Prop),
      Below (Ar dp un gd []) base [] h₀ → (hd.heap_39 w.params).In h₀ → TopF mean mg mb h₀ → Room dp un 6 → Fr h₀ L s.heap (ov [("numbers", .ref nA), ("base", .str (strOf txt) tb)] u) → News h₀ L s.heap [(nA, listOf nv.toArray nn)] →
      (∀ tA tv nt eA ev ne tW tL h' tk', StrsAre tv ((txt :: lays ⟨txt, 128, -1⟩ num).map strOf) → IntsAre ev (endsOf txt.length num (num.length + 1)) →
        Fr h₀ L h' (ov [("large", .bytes (encAll up txt.length 0 72 num).toArray tL), ("texts", .ref tA), ("ends", .ref eA), ("written", .bytes (encAll lo txt.length 0 72 num).toArray tW), ("numbers", .ref nA), ("base", .str (strOf txt) tb)] u) →
        News h₀ L h' [(tA, listOf tv.toArray nt), (eA, listOf ev.toArray ne), (nA, listOf nv.toArray nn)] →
        wpC (model PySem.Challenge.rw_nb0162_01.row.prog w) (Ar (dp + 1) (un + 3) gd [envOf "law" lawD.scope L fa cd]) (execs (lawD.body.drop 9) (envOf "law" lawD.scope L fa cd)) Q { s with heap := h', toks := tk' }) →
      wpC (model PySem.Challenge.rw_nb0162_01.row.prog w) (Ar (dp + 1) (un + 3) gd [envOf "law" lawD.scope L fa cd]) (execs (lawD.body.drop 3) (envOf "law" lawD.scope L fa cd)) Q s := by
  k_fill
  intro dp un gd base h₀ L u s Q B X T hroom F N hret
  generalize hbd : lawD.body.drop 3 = body
  conv at hbd => lhs; whnf
  subst hbd
  generalize hsc : lawD.scope = scope
  conv at hsc => lhs; whnf
  subst hsc
  have hbl : (0 : Int) ≤ txt.length ∧ (txt.length : Int) ≤ 8 := by omega
  refine execsC_cons (assignC (callC_ae F X T (by k_is) (by k_is) (by exact rfl) (by exact rfl) (by exact rfl) (by exact rfl) (by exact rfl) ?_) (by exact rfl))
  k_extra "go3"
  refine TellsC.use (geni_tells w mean mg mb txt.length num nA _ hnum hnl hbl) B F X N T rfl ⟨nv, PySem.IsL.isList (n := nn) (N.get (.head _)), hnv⟩ (Room.down hroom rfl) ?_
  rintro _ h3 tk3 F3 N3 ⟨tW, rfl⟩ _
  refine st_ov F3 N3 (fun h4 tk4 F4 N4 => then_next (execsC_any ?_)) rfl rfl
  clear F N F3 N3
  k_extra "go3"
  refine then_next (execsC_any ?_)
  k_extra "go3"
  refine Tells.useR (ends_tells w mean mg mb txt.length num nA _ _ hnum hnl hbl) B F4 X N4 T rfl ⟨nv, PySem.IsL.isList (n := nn) (N4.get (.head _)), hnv⟩ (Room.down hroom rfl) ?_
  rintro eA _ h5 tk5 ⟨ev, ne, rfl, hev⟩ F5 N5 hn5
  clear F4 N4
  k_extra "go3"
  refine then_next (execsC_any ?_)
  k_extra "go3"
  refine then_next (execsC_any ?_)
  rename Fr _ _ _ _ => F6
  rename News _ _ _ _ => N6
  k_extra "go3"
  refine Tells.useR (laid_tells w mean mg mb txt num nA _ hnum hnl ht) B F6 X N6 T rfl ⟨nv, PySem.IsL.isList (n := nn) (N6.get (.tail _ (.head _))), hnv⟩ (Room.down hroom rfl) ?_
  rintro tA _ h7 tk7 ⟨tv, nt, rfl, htv⟩ F7 N7 hn7
  clear F6 N6
  k_extra "go3"
  refine then_next (execsC_any ?_)
  rename Fr _ _ _ _ => F8
  rename News _ _ _ _ => N8
  k_extra "go3"
  refine method_upper ?_
  k_extra "go3"
  have hxl := encAll_len lo txt.length num 0 72
  refine upper_call (by omega) fun t9 tk9 => ?_
  rw [enc_upper _ _ _ _ hnum]
  k_extra "go3"
  rename Fr _ _ _ _ => F9
  rename News _ _ _ _ => N9
  refine then_next ?_
  exact hret _ _ _ _ _ _ _ _ _ _ htv hev F9 N9

/-- a comparison whose left side calls -/
theorem isTrueC {M : Model} {A : Around} {s : Shared} {env : Env} {l r : Expr} {op : CmpOp} {pos : Pos} {whole : Sem Value} {Q : Bool → Shared → Prop}
    (h : wpC M A (eval l env) (fun a s₁ => wpAny M A (eval r env) (fun b s₂ => wpAny M A (compareOp op a b) (fun c s₃ => wpAny M A (truthy c) Q (fun _ _ => False) s₃) (fun _ _ => False) s₂) (fun _ _ => False) s₁) s)
    (hm : behindInMarks op r = false) : wpC M A (isTrue (.Compare l [op] [r] pos) env whole) Q s := fun Γ p hΓ c => by
  simp only [isTrue_Compare1, markedBehindIn_of_false hm, Sem.wp_bind', Sem.wp_holding, Sem.wp_cmd_standAt, Sem.wp_operate]
  exact Sem.wp_mono M Γ _ (fun a p₁ s₁ h₁ => Sem.wp_mono M Γ _ (fun b _ s₂ h₂ => Sem.wp_mono M Γ _ (fun c p₃ s₃ h₃ => h₃ Γ p₃ hΓ)
    (fun _ _ _ h' => h') _ _ (h₂ Γ _ hΓ)) (fun _ _ _ h' => h') _ _ (h₁ Γ p₁ hΓ)) (fun _ _ _ h' => h') _ _ (h Γ p hΓ c)
theorem enc_take (sg : Int → UInt8) (bl : Int) (ns : List Int) (i : Nat) : (encAll sg bl 0 72 ns).take (encAll sg bl 0 72 (ns.take i)).length = encAll sg bl 0 72 (ns.take i) := by
  have h := encAll_append sg bl (ns.take i) (ns.drop i) 0 72
  rw [List.take_append_drop] at h
  rw [h, List.take_left]
theorem enc_len_le (sg : Int → UInt8) (bl : Int) (ns : List Int) (i : Nat) : (encAll sg bl 0 72 (ns.take i)).length ≤ (encAll sg bl 0 72 ns).length := by
  have h := encAll_append sg bl (ns.take i) (ns.drop i) 0 72
  rw [List.take_append_drop] at h
  rw [h, List.length_append]; omega
theorem enc_len_sg (sg sg' : Int → UInt8) (bl : Int) : ∀ (ns : List Int) (k : Nat) (b : Int), (encAll sg bl k b ns).length = (encAll sg' bl k b ns).length
  | [], _, _ => rfl
  | N :: r, k, b => by rw [encAll, encAll, List.length_append, List.length_append, List.length_map, List.length_map, enc_len_sg sg sg' bl r]
theorem ends_at {bl : Int} {ns : List Int} {k i : Nat} {n : Int} (h : (endsOf bl ns k)[i]? = some n) : i < k ∧ n = ((encAll lo bl 0 72 (ns.take i)).length : Int) := by
  unfold endsOf at h
  rw [List.getElem?_map] at h
  have hi : i < k := by
    rcases Nat.lt_or_ge i k with q | q
    · exact q
    · rw [List.getElem?_eq_none (by simpa using q)] at h; cases h
  rw [List.getElem?_range hi] at h
  exact ⟨hi, (Option.some.inj h).symm⟩
theorem ins_whole {txt : List Nat} {num : List Int} (ht : txt.length ≤ 8) (hnum : ∀ x ∈ num, 0 ≤ x ∧ x < 2000) (hl : num.length ≤ 8) (i : Nat) : InsX ⟨txt, encAll up txt.length 0 72 (num.take i), [], num.take i, []⟩ :=
  ⟨by dsimp only; rw [List.append_nil, List.append_nil], .inl ⟨rfl, rfl⟩, fun n hn => hnum n (List.mem_of_mem_take hn), by dsimp only; rw [List.length_take]; omega, ht⟩
/-- the octets ahead of a place -/
theorem cut_By {prog : Program} {w : World} {A : Around} {E : Value → Shared → Prop} {s : Shared} {value slice : PySem.Expr} {x : List UInt8} {t t2 : Tok} {h₀ : Heap} {L : Addr} {m : Str → Option Value} {news : List (Addr × Obj)} {Q : Value → Shared → Prop} {p : Nat} {v2 : Int} (e2 : clipAt x.length v2 = p)
    (hF : Fr h₀ L s.heap m) (hN : News h₀ L s.heap news) (hz : x.length ≤ 1000)
    (h : ∀ h' t' k, Fr h₀ L h' m → News h₀ L h' news → Q (.bytes (x.take p).toArray t') { s with heap := h', toks := k })
    (hs : subscripted slice false (.bytes x.toArray t) (.ref s.heap.objs.size) = operate [.ref s.heap.objs.size, .bytes x.toArray t] (getItem (.bytes x.toArray t) (.ref s.heap.objs.size)) := by with_unfolding_all rfl)
    (ht : ∀ r, letTemporaryGo value (.bytes x.toArray t) r = pure () := by intro _; with_unfolding_all rfl) :
    wpAny (model prog w) A (subscriptTail value slice (.bytes x.toArray t) (.ref s.heap.objs.size)) Q E { s with heap := s.heap.push { cls := .type "slice", data := .fields #[.none, .int v2 t2, .none] } } :=
  slice_By hF hN .none (.int _ _) hz (a := 0) (b := p) rfl e2 (fun h' t' k F' N' => by rw [List.drop_zero, Nat.sub_zero]; exact h h' t' k F' N') hs ht
theorem clip_at {n p : Nat} (h : p ≤ n) : clipAt n (p : Int) = p := by rw [clipAt_nat]; omega
theorem bytes_same {prog : Program} {w : World} {A : Around} {E : Value → Shared → Prop} {s : Shared} {b : Array UInt8} {t u : Tok} {Q : Value → Shared → Prop} (h : Q (.bool false) s) : wpAny (model prog w) A (compareOp .NotEq (.bytes b t) (.bytes b u)) Q E s :=
  PySem.W.ne_bytes (by rw [show (b.toList != b.toList) = false by simp]; exact h)
theorem strs_same {prog : Program} {w : World} {A : Around} {E : Value → Shared → Prop} {s : Shared} {b : Str} {t u : Tok} {Q : Value → Shared → Prop} (h : Q (.bool false) s) : wpAny (model prog w) A (compareOp .NotEq (.str b t) (.str b u)) Q E s :=
  PyProof.Rows.ne_str (by rw [show (b != b) = false by simp]; exact h)
def lawLoc (txt : List Nat) (num : List Int) (tA nA : Addr) : List (Str × Dv) := [("base", .s (strOf txt)), ("numbers", .r nA), ("written", .y (encAll lo txt.length 0 72 num).toArray), ("texts", .r tA), ("large", .y (encAll up txt.length 0 72 num).toArray)]
theorem law_for (w : World) (mean : ExcName → Option Value) (mg mb : Str → Option Value) (txt : List Nat) (num : List Int) (fa : Addr) (cd : Value) {nv tv ev : List Value} {nA tA eA : Addr} {nn nt ne : Nat} {tb tW tL : Tok} (ht : txt.length ≤ 8) (hnum : ∀ x ∈ num, 0 ≤ x ∧ x < 2000) (hnl : num.length ≤ 8) (hnv : IntsAre nv num)
    (htv : StrsAre tv ((txt :: lays ⟨txt, 128, -1⟩ num).map strOf)) (hev : IntsAre ev (endsOf txt.length num (num.length + 1))) :
    ∀ (dp un : Nat) (gd : Option (List Code)) (base h₀ : Heap) (L : Addr) (u : Str → Option Value) (s : Shared) (Q : Flow → Shared → Prop) (st : Stmt),
      Below (Ar dp un gd []) base [] h₀ → (hd.heap_39 w.params).In base → TopF mean mg mb base → Room dp un 6 →
      Fr h₀ L s.heap (ov [("large", .bytes (encAll up txt.length 0 72 num).toArray tL), ("texts", .ref tA), ("ends", .ref eA), ("written", .bytes (encAll lo txt.length 0 72 num).toArray tW), ("numbers", .ref nA), ("base", .str (strOf txt) tb)] u) →
      News h₀ L s.heap [(tA, listOf tv.toArray nt), (eA, listOf ev.toArray ne), (nA, listOf nv.toArray nn)] → lawD.body[9]? = some st →
      (∀ TT u h' tk', Fr h₀ L h' (ov (vals (lawLoc txt num tA nA) TT) u) → News h₀ L h' [(tA, listOf tv.toArray nt), (nA, listOf nv.toArray nn)] → Q .next { s with heap := h', toks := tk' }) →
      wpC (model PySem.Challenge.rw_nb0162_01.row.prog w) (Ar (dp + 1) (un + 3) gd [envOf "law" lawD.scope L fa cd]) (exec st (envOf "law" lawD.scope L fa cd)) Q s := by
  k_fill
  intro dp un gd base h₀ L u s Q st B XB TB hroom F N hst hret
  have X := XB.keeps B.stays
  have T := TB.keeps B.stays
  conv at hst => lhs; whnf
  obtain rfl := Option.some.inj hst
  clear hst
  generalize hsc : lawD.scope = scope
  conv at hsc => lhs; whnf
  subst hsc
  refine forStmtC (by intro _; rfl) ?_
  k_extra "go3"
  have hxl := encAll_len lo txt.length num 0 72
  have hbl : (0 : Int) ≤ txt.length ∧ (txt.length : Int) ≤ 8 := by omega
  refine for_enumC (σ := Unit) (vs := ev) rfl (PySem.IsL.isList (n := ne) (N.get (.tail _ (.head _)))) (N _ (.tail _ (.head _))).2.1 F N (by decide) (fun _ _ => True) (fun _ => [(tA, listOf tv.toArray nt), (nA, listOf nv.toArray nn)])
    (fun _ => lawLoc txt num tA nA) [tA, nA] (fun _ => rfl) () (by unfold lawLoc; k_extra "has") ?_ trivial ?_ ?_ rfl rfl rfl
  · intro p hp
    rcases List.mem_cons.mp hp with rfl | hp
    · exact .head _
    · rw [List.mem_singleton.mp hp]; exact .tail _ (.tail _ (.head _))
  · intro i v t c u9 TT h tk own hv _ hown F9 N9
    obtain ⟨e, te, he, rfl⟩ := ints_at hev hv
    obtain ⟨hi, rfl⟩ := ends_at he
    dsimp only [lawLoc, vals, Dv.v, List.cons_append, List.nil_append] at F9 N9
    clear F N
    have hil : (encAll lo txt.length 0 72 (num.take i)).length ≤ 64 := by have := enc_len_le lo txt.length num i; omega
    refine execsC_cons (ifC (isTrueC (callC_ae F9 X T (by k_is) (by k_is) (by exact rfl) (by exact rfl) (by exact rfl) (by exact rfl) (by exact rfl) ?_) rfl))
    k_extra "go3"
    rename IntsAre _ (List.take _ _) => hI9
    rename Fr _ _ _ _ => F10
    rename News _ _ _ _ => N10
    rw [Int.toNat_natCast] at hI9
    refine TellsC.use (geni_tells w mean mg mb txt.length (num.take i) _ _ (fun n hn => hnum n (List.mem_of_mem_take hn)) (by rw [List.length_take]; omega) hbl) B F10 X N10 T rfl ⟨_, PySem.IsL.isList (n := 0) (N10.get (.head _)), hI9⟩ (Room.down hroom rfl) ?_
    rintro _ h3 tk3 F3 N3 ⟨t3, rfl⟩ _
    have N3 : News h₀ L h3 ((tA, listOf tv.toArray nt) :: (nA, listOf nv.toArray nn) :: own) := fun p hp => N3 p (.tail _ hp)
    clear F10 N10 hI9
    k_extra "go3"
    have hle := enc_len_le lo txt.length num i
    refine cut_By (s := ⟨_, _, _, _, _⟩) (clip_at hle) F3 N3 (by omega) fun h4 t4 tk4 F4 N4 => ?_
    rw [enc_take]
    clear F3 N3
    k_extra "go3"
    refine bytes_same (wpAny_truthy_bool ((if_neg Bool.false_ne_true).mpr (execsC_nil (then_next (execsC_any ?_)))))
    k_extra "go3"
    rename Fr _ _ _ _ => F5
    rename News _ _ _ _ => N5
    have hul : (encAll lo txt.length 0 72 (num.take i)).length = (encAll up txt.length 0 72 (num.take i)).length := enc_len_sg lo up _ _ _ _
    have hxu := encAll_len up txt.length num 0 72
    have hlu := enc_len_le up txt.length num i
    refine cut_By (s := ⟨_, _, _, _, _⟩) (clip_at (by rw [hul]; exact hlu)) F5 N5 (by omega) fun h6 t6 tk6 F6 N6 => ?_
    rw [hul, enc_take]
    clear F5 N5
    k_extra "go3"
    refine insort_all w mean mg mb ⟨txt, encAll up txt.length 0 72 (num.take i), [], num.take i, []⟩ "strict" _ _ _ (ins_whole ht hnum hnl i) (dp + 1) (un + 3) gd _ base _ _ _ (below_here B F6 rfl) XB TB (Room.down hroom rfl) ?_ (fun q => absurd rfl q) (fun q => absurd rfl q)
    intro _ t7 h7 tk7 st7
    have F7 := fr_stays F6 st7
    have N7 := news_stays N6 st7
    clear F6 N6 st7
    dsimp only
    k_extra "go3"
    obtain ⟨t8, hv8⟩ := strs_at htv (lays_at num ⟨txt, 128, -1⟩ i (Nat.le_of_lt_succ hi))
    refine PyProof.Rows.item_listL (PySem.IsL.isList (n := nt) (N7.get (.head _))) (by omega) (by omega) (x := .str (strOf ((num.take i).foldl lstep ⟨txt, 128, -1⟩).txt) t8) (by rw [Int.toNat_natCast]; exact hv8) ?_
    k_extra "go3"
    · exact ne_same (by assumption)
    refine then_next (execsC_nil ?_)
    refine fpost () F7 N7 ?_ (fun p hp => .tail _ (.tail _ hp)) (by unfold lawLoc; k_extra "has") trivial
    intro p hp
    rcases List.mem_cons.mp hp with rfl | hp
    · exact .head _
    · rw [List.mem_singleton.mp hp]; exact .tail _ (.head _)
  · intro c u9 TT h tk _ F9 N9
    exact hret _ _ _ _ F9 N9

theorem ks_canLayAll0 : ∀ xs : List Str, (∀ x ∈ xs, PyData.strOk x = true) → PyData.canLayAll0 (xs.map PyData.str) = true
  | [], _ => rfl
  | x :: r, h => by
    have := h x (.head _)
    simp [PyData.canLayAll0, PyData.canLay0, ks_canLayAll0 r fun y hy => h y (.tail _ hy), this]
theorem ks_depthAll : ∀ xs : List Str, PyData.depthAll (xs.map PyData.str) = 0
  | [] => rfl
  | _ :: r => by simp [PyData.depthAll, PyData.depth, ks_depthAll r]
theorem ks_shaped {xs : List Str} (h : ∀ x ∈ xs, PyData.strOk x = true) : SeqAt.shaped (.list (xs.map PyData.str)) = true := by
  have := ks_canLayAll0 xs h
  simp [SeqAt.shaped, PyData.canLay0, PyData.depth, this, ks_depthAll]
theorem ks_sameAll : ∀ xs : List Str, PySem.Spec.sameAll (xs.map PyData.str) (xs.map PyData.str) = true
  | [] => by simp [PySem.Spec.sameAll]
  | a :: r => by simp [PySem.Spec.sameAll, PySem.Spec.same, ks_sameAll r]
theorem ks_carried : ∀ {vs : List Value} {xs : List Str}, StrsAre vs xs → CarriedAll vs (xs.map PyData.str)
  | _, _, .nil => .nil
  | _, _, .cons _ t r => .cons (.str _ t) (ks_carried r)
/-- two lists of the same strs -/
theorem ne_strs {prog : Program} {w : World} {A : Around} {E : Value → Shared → Prop} {s : Shared} {a b : Addr} {vs ys : List Value} {xs : List Str} {Q : Value → Shared → Prop} (ha : s.heap.IsList a vs.toArray) (hb : s.heap.IsList b ys.toArray) (hi : StrsAre vs xs) (hj : StrsAre ys xs) (hx : ∀ x ∈ xs, PyData.strOk x = true) (hu : A.units + 64 < cLine) (h : Q (.bool false) s) :
    wpAny (model prog w) A (compareOp .NotEq (.ref a) (.ref b)) Q E s :=
  ne_dataH_same (reads_newData ha (ks_carried hi)) (reads_newData hb (ks_carried hj)) (ks_shaped hx) (ks_shaped hx) hu (PySem.SeqAt.noMix_of_shape (.list .str) rfl _ _ (list_map_has fun _ => rfl) (list_map_has fun _ => rfl)) (by rw [PySem.Spec.same, ks_sameAll]; exact h)
theorem lays_ok : ∀ (ns : List Int) (st : Lay), (∀ n ∈ ns, 0 ≤ n ∧ n < 2000) → -1 ≤ st.pos → st.pos ≤ 20 → 0 ≤ st.code → st.code + 2100 * ns.length ≤ 1000000 → st.txt.length + ns.length ≤ 20 → (∀ c ∈ st.txt, c < 1000001) → ∀ ys ∈ st.txt :: lays st ns, ∀ c ∈ ys, c < 1000001
  | [], st, _, _, _, _, _, _, h => fun ys hy => by rw [List.mem_singleton.mp hy]; exact h
  | N :: r, st, hn, p0, p1, c0, c1, hl, h => by
    have hk : st.txt.length ≤ 20 := by omega
    have hb := bd_num (ps := st.pos) (cd := st.code) (k := st.txt.length) (hn N (.head _)) ⟨p0, p1⟩ c0 hk
    have hs := bd_step (st := st) (N0 := N) (k := st.txt.length) rfl
    have e1 : (lstep st N).pos = (st.pos + (N + 1)).fmod (↑st.txt.length + 1) := by rw [hs]
    have e2 : (lstep st N).code = st.code + (st.pos + (N + 1)).fdiv (↑st.txt.length + 1) := by rw [hs]
    have e3 := lstep_len st N
    have m0 := hb.m0
    have m1 := hb.m1
    have d0 := hb.d0
    have d1 := hb.d1
    rw [List.length_cons] at c1 hl
    have hnew : ∀ c ∈ (lstep st N).txt, c < 1000001 := by
      intro c hc
      rw [hs] at hc
      rcases List.mem_append.mp hc with hc | hc
      · rcases List.mem_append.mp hc with hc | hc
        · exact h c (List.mem_of_mem_take hc)
        · rw [List.mem_singleton.mp hc]; omega
      · exact h c (List.mem_of_mem_drop hc)
    have ih := lays_ok r (lstep st N) (fun n h => hn n (.tail _ h)) (by rw [e1]; omega) (by rw [e1]; omega) (by rw [e2]; omega) (by rw [e2]; omega) (by rw [e3]; omega) hnew
    intro ys hy
    rcases List.mem_cons.mp hy with rfl | hy
    · exact h
    · exact ih ys hy
theorem texts_ok {txt : List Nat} {num : List Int} (ht : txt.length ≤ 8) (hc : ∀ c ∈ txt, c < 128) (hnum : ∀ x ∈ num, 0 ≤ x ∧ x < 2000) (hl : num.length ≤ 8) : ∀ x ∈ (txt :: lays ⟨txt, 128, -1⟩ num).map strOf, PyData.strOk x = true := by
  intro x hx
  obtain ⟨ys, hy, rfl⟩ := List.mem_map.mp hx
  have h := lays_ok num ⟨txt, 128, -1⟩ hnum (by dsimp only; decide) (by dsimp only; decide) (by dsimp only; decide) (by dsimp only; omega) (by dsimp only; omega) (fun c h => by have := hc c h; omega) ys hy
  simp only [PyData.strOk, strOf, List.all_toArray, List.all_eq_true, decide_eq_true_eq]
  exact fun c hc => Nat.lt_trans (h c hc) (by decide)

theorem units_room {dp un : Nat} (h : Room dp un 6) {gd : Option (List Code)} {outer : List Env} : (Ar (dp + 1) (un + 3) gd outer).units + 64 < cLine := by
  have := h.2
  show un + 3 + 64 < cLine
  omega
theorem law_st11 (w : World) (mean : ExcName → Option Value) (mg mb : Str → Option Value) (txt : List Nat) (num : List Int) (fa : Addr) (cd : Value) {nv tv : List Value} {nA tA : Addr} {nn nt : Nat} (ht : txt.length ≤ 8) (hc : ∀ c ∈ txt, c < 128) (hnum : ∀ x ∈ num, 0 ≤ x ∧ x < 2000) (hnl : num.length ≤ 8) (hnv : IntsAre nv num)
    (htv : StrsAre tv ((txt :: lays ⟨txt, 128, -1⟩ num).map strOf)) :
    ∀ (dp un : Nat) (gd : Option (List Code)) (base h₀ : Heap) (L : Addr) (TT : Nat → Tok) (u : Str → Option Value) (s : Shared) (Q : Flow → Shared → Prop) (E : Value → Shared → Prop) (st : Stmt),
      Below (Ar dp un gd []) base [] h₀ → (hd.heap_39 w.params).In base → TopF mean mg mb base → Room dp un 6 →
      Fr h₀ L s.heap (ov (vals (lawLoc txt num tA nA) TT) u) → News h₀ L s.heap [(tA, listOf tv.toArray nt), (nA, listOf nv.toArray nn)] → lawD.body[10]? = some st →
      (∀ TT u h' tk', Fr h₀ L h' (ov (vals (lawLoc txt num tA nA) TT) u) → News h₀ L h' [(tA, listOf tv.toArray nt), (nA, listOf nv.toArray nn)] → Q .next { s with heap := h', toks := tk' }) →
      wpAny (model PySem.Challenge.rw_nb0162_01.row.prog w) (Ar (dp + 1) (un + 3) gd [envOf "law" lawD.scope L fa cd]) (exec st (envOf "law" lawD.scope L fa cd)) Q E s := by
  k_fill
  intro dp un gd base h₀ L TT u s Q E st B XB TB hroom F N hst hret
  have X := XB.keeps B.stays
  have T := TB.keeps B.stays
  conv at hst => lhs; whnf
  obtain rfl := Option.some.inj hst
  clear hst
  generalize hsc : lawD.scope = scope
  conv at hsc => lhs; whnf
  subst hsc
  dsimp only [lawLoc, vals, Dv.v] at F
  k_extra "go3"
  refine Tells.useR (deeds_tells w mean mg mb txt num nA _ hnum hnl ht) B F X N T rfl ⟨nv, PySem.IsL.isList (n := nn) (N.get (.tail _ (.head _))), hnv⟩ (Room.down hroom rfl) ?_
  rintro dA _ h5 tk5 ⟨dv, dn, rfl, hdv⟩ F5 N5 hn5
  clear F N
  k_extra "go3"
  refine ne_strs (PySem.IsL.isList (n := dn) (N5.get (.head _))) (PySem.IsL.isList (n := nt) (N5.get (.tail _ (.head _)))) hdv htv (texts_ok ht hc hnum hnl) (units_room hroom) ?_
  k_extra "go3"
  refine back_all w mean mg mb txt num tA hc hnum hnl ht (dp + 1) (un + 3) gd _ base _ _ _ (below_here B F5 rfl) XB TB ⟨tv, PySem.IsL.isList (n := nt) (N5.get (.tail _ (.head _))), htv⟩ (Room.down hroom rfl) ?_
  intro bA h7 tk7 bv bn st7 hn7 hb7 hbv
  have F7 := fr_stays F5 st7
  have N7 := news_new F5 N5 st7 hb7 hn7
  clear F5 N5 st7
  k_extra "go3"
  refine PySem.W.ke_ne_ints (PySem.IsL.isList (n := bn) (N7.get (.head _))) (PySem.IsL.isList (n := nn) (N7.get (.tail _ (.tail _ (.tail _ (.head _)))))) hbv hnv (units_room hroom) ?_
  rw [decide_eq_true rfl, Bool.not_true]
  k_extra "go3"
  exact hret _ _ _ _ F7 fun p hp => N7 p (.tail _ (.tail _ hp))

theorem stays_turn {h₀ g h : Heap} (T : KtsTurn (frs []) h₀ g) (st : g.StaysIn h) : h₀.StaysIn h := fun b o e => st b o (T.other b o e (fun hm => nomatch hm))
theorem fold_ne (txt : List Nat) (num : List Int) (h : num ≠ []) : (num.foldl lstep ⟨txt, 128, -1⟩).txt ≠ [] := by
  have key : ∀ (l : List Int) (st : Lay), st.txt.length ≤ (l.foldl lstep st).txt.length ∧ (l ≠ [] → 1 ≤ (l.foldl lstep st).txt.length) := by
    intro l
    induction l with
    | nil => intro st; exact ⟨Nat.le_refl _, fun q => absurd rfl q⟩
    | cons N r ih =>
      intro st
      have := ih (lstep st N)
      have e := lstep_len st N
      rw [List.foldl_cons]
      exact ⟨by omega, fun _ => by omega⟩
  intro e
  have := (key num ⟨txt, 128, -1⟩).2 h
  rw [e] at this
  exact absurd this (by decide)
theorem ins_cut {txt : List Nat} {pre : List Int} (ht : txt.length ≤ 8) (hpre : ∀ x ∈ pre, 0 ≤ x ∧ x < 2000) (hl : pre.length ≤ 7) :
    InsX ⟨txt, (encAll up txt.length 0 72 (pre ++ [700])).take ((encAll up txt.length 0 72 (pre ++ [700])).length - 1), (encAll up txt.length 0 72 (pre ++ [700])).drop ((encAll up txt.length 0 72 (pre ++ [700])).length - 1), pre, [700]⟩ := by
  refine ⟨by dsimp only; rw [List.take_append_drop], .inr ⟨700, rfl, by decide, by decide, ?_⟩, hpre, by dsimp only; omega, ht⟩
  dsimp only
  have : 1 ≤ (encAll up txt.length 0 72 (pre ++ [700])).length := by
    rw [encAll_append, encAll, List.length_append, List.length_append, List.length_map]
    have := enc_pos (biasAt txt.length 0 72 pre) 700
    omega
  rw [List.length_drop]; omega
theorem item_neg {prog : Program} {w : World} {A : Around} {E : Value → Shared → Prop} {s : Shared} {value slice : Expr} {l : Addr} {vs : List Value} {k : Int} {u : Tok} {x : Value} {Q : Value → Shared → Prop} (hl : s.heap.IsList l vs.toArray)
    (h0 : k < 0) (h1 : -(vs.length : Int) ≤ k) (hfit : -(2 ^ 63) ≤ k) (hx : vs[(k + vs.length).toNat]? = some x) (h : Q x s)
    (hs : subscripted slice false (.ref l) (.int k u) = operate [.ref l, .int k u] (getItem (.ref l) (.int k u)) := by with_unfolding_all rfl) :
    wpAny (model prog w) A (subscriptTail value slice (.ref l) (.int k u)) Q E s :=
  subscriptTail_builtinR hl.typeIs slot_list_getitem.lookup (wpAny_getItem_list_neg (Q := fun r s' => r = _ ∧ Q r s') hl h0 (by rw [List.size_toArray]; exact h1) hfit (by rw [List.size_toArray]; simpa using hx) ⟨rfl, h⟩) hs
theorem clip_last (n : Nat) : clipAt n (-1) = n - 1 := clipAt_neg n 1 (Nat.le_refl _)
theorem toks_lt {txt : List Nat} {n : Nat} {y : Str} {t : Tok} (h : Value.str y t ∈ tokSigns n txt) : t < n + txt.length := by
  obtain ⟨j, hj, e⟩ := List.mem_iff_getElem.mp h
  have hj' : j < txt.length := by rw [tokSigns_length] at hj; exact hj
  have h2 : (tokSigns n txt)[j]? = some (.str y t) := by rw [List.getElem?_eq_getElem hj, e]
  rw [tokSigns_get, List.getElem?_eq_getElem hj'] at h2
  have h3 := Option.some.inj h2
  injection h3 with _ h4
  rw [← h4]
  exact Nat.add_lt_add_left hj' n
theorem fold_len : ∀ (l : List Int) (st : Lay), (l.foldl lstep st).txt.length = st.txt.length + l.length
  | [], _ => rfl
  | N :: r, st => by rw [List.foldl_cons, fold_len r, lstep_len, List.length_cons]; omega
/-- what is told of the last text -/
structure FinT (txt : List Nat) (pre : List Int) (fin : List Nat) : Prop where
  at_ : (txt :: lays ⟨txt, 128, -1⟩ (pre ++ [700]))[pre.length + 1]? = some fin
  len : fin.length = txt.length + (pre.length + 1)
  le : ∀ c ∈ fin, c < 1000001
theorem fin_of {txt : List Nat} {pre : List Int} (ht : txt.length ≤ 8) (hc : ∀ c ∈ txt, c < 128) (hpre : ∀ x ∈ pre, 0 ≤ x ∧ x < 2000) (hl : pre.length ≤ 7) : ∃ fin, FinT txt pre fin := by
  have hlb := lays_at (pre ++ [700]) ⟨txt, 128, -1⟩ (pre ++ [700]).length (Nat.le_refl _)
  rw [List.take_length] at hlb
  have hn : (pre ++ [700]).length = pre.length + 1 := by rw [List.length_append]; rfl
  refine ⟨_, by rw [← hn]; exact hlb, by rw [fold_len, hn], ?_⟩
  exact lays_ok (pre ++ [700]) ⟨txt, 128, -1⟩ (fun x hx => (List.mem_append.mp hx).elim (hpre x) fun q => by rw [List.mem_singleton.mp q]; decide) (by dsimp only; decide) (by dsimp only; decide) (by dsimp only; decide) (by rw [hn]; dsimp only; omega) (by rw [hn]; dsimp only; omega) (fun c h => by have := hc c h; omega) _ (List.mem_of_getElem? hlb)
/-- tokens of the signs, and one behind them -/
def tokOf (n : Nat) (fin : List Nat) (x : Nat) (t : Tok) : List Nat := if t < n + fin.length then [fin.getD (t - n) 0] else [x]
theorem tok_list {h : Heap} {l : Addr} {n c x : Nat} {fin : List Nat} (hl : h.get? l = some (listOf (tokSigns n fin).toArray c)) (hn : 1 ≤ n) : TokList (tokOf n fin x) h l (units fin) :=
  ⟨tokSigns n fin, PySem.IsL.isList (n := c) hl, units_are (tokSigns_are fin n), fun y t hm => by
    have h1 := toks_of hn y t hm
    have h2 := toks_lt hm
    refine ⟨h1.1, ?_⟩
    rw [h1.2]; unfold tokOf; rw [if_pos h2]⟩
theorem tok_new {n x : Nat} {fin : List Nat} {t : Tok} (h : n + fin.length ≤ t) : strOf [x] = strOf (tokOf n fin x t) := by
  unfold tokOf; rw [if_neg (Nat.not_lt.mpr h)]
theorem not_unit {fin : List Nat} {c : Nat} (h : ∀ x ∈ fin, x ≤ c) : [c + 1] ∉ units fin := by
  intro hm
  obtain ⟨x, hx, e⟩ := List.mem_map.mp hm
  cases e
  exact absurd (h _ hx) (Nat.not_succ_le_self c)
theorem law_end (w : World) (mean : ExcName → Option Value) (mg mb : Str → Option Value) (txt : List Nat) (pre : List Int) (fa : Addr) (cd : Value) {tv : List Value} {nA tA : Addr} {nt : Nat} (ht : txt.length ≤ 8) (hc : ∀ c ∈ txt, c < 128) (hpre : ∀ x ∈ pre, 0 ≤ x ∧ x < 2000) (hl : pre.length ≤ 7)
    (htv : StrsAre tv ((txt :: lays ⟨txt, 128, -1⟩ (pre ++ [700])).map strOf)) :
    ∀ (dp un : Nat) (gd : Option (List Code)) (base h₀ : Heap) (L : Addr) (TT : Nat → Tok) (u : Str → Option Value) (s : Shared) (Q : Flow → Shared → Prop) (E : Value → Shared → Prop),
      Below (Ar dp un gd []) base [] h₀ → (hd.heap_39 w.params).In base → TopF mean mg mb base → Room dp un 6 →
      Fr h₀ L s.heap (ov (vals (lawLoc txt (pre ++ [700]) tA nA) TT) u) → News h₀ L s.heap [(tA, listOf tv.toArray nt)] →
      (∀ h' tk', h₀.StaysIn h' → Q (.ret (.bool true)) { s with heap := h', toks := tk' }) →
      wpAny (model PySem.Challenge.rw_nb0162_01.row.prog w) (Ar (dp + 1) (un + 3) gd [envOf "law" lawD.scope L fa cd]) (execs (lawD.body.drop 11) (envOf "law" lawD.scope L fa cd)) Q E s := by
  k_fill
  rintro dp un gd base h₀ L TT u ⟨h1, gn1, dr1, tk1, os1⟩ Q E B XB TB hroom F N hret
  have X := XB.keeps B.stays
  have T := TB.keeps B.stays
  generalize hbd : lawD.body.drop 11 = body
  conv at hbd => lhs; whnf
  subst hbd
  generalize hsc : lawD.scope = scope
  conv at hsc => lhs; whnf
  subst hsc
  dsimp only [lawLoc, vals, Dv.v] at F N hret
  have hP := ins_cut ht hpre hl
  have hxu := encAll_len up txt.length (pre ++ [700]) 0 72
  rw [List.length_append] at hxu
  simp only [List.length_cons, List.length_nil] at hxu
  have htl := htv.length
  rw [List.length_map, List.length_cons, lays_length, List.length_append] at htl
  simp only [List.length_cons, List.length_nil] at htl
  k_extra "go3"
  refine cut_By (s := ⟨_, _, _, _, _⟩) (x := encAll up txt.length 0 72 (pre ++ [700])) (clip_last _) F N (by omega) fun h2 t2 tk2 F2 N2 => ?_
  clear F N
  k_extra "go3"
  refine insort_all w mean mg mb ⟨txt, _, _, pre, [700]⟩ "ignore" _ _ _ hP (dp + 1) (un + 3) gd _ base _ _ _ (below_here B F2 rfl) XB TB (Room.down hroom rfl) (fun q => nomatch q) ?_ (fun _ q => absurd q (by decide))
  intro _ _ t3 g3' h3 tk3 tu3 st3
  obtain ⟨g3, T3, F3, B3⟩ := turn_ground B F2 tu3 st3
  have N3 := turn_news B N2 tu3 st3 T3
  have X3 := XB.keeps B3.stays
  have TT3 := TB.keeps B3.stays
  clear F2 N2 X T tu3 st3
  dsimp only
  k_extra "go3"
  have hst : ((pre ++ [700]).take pre.length).foldl lstep ⟨txt, 128, -1⟩ = pre.foldl lstep ⟨txt, 128, -1⟩ := by rw [List.take_left]
  have hla := lays_at (pre ++ [700]) ⟨txt, 128, -1⟩ pre.length (by rw [List.length_append]; omega)
  rw [hst] at hla
  obtain ⟨t4, hv4⟩ := strs_at htv hla
  refine item_neg (PySem.IsL.isList (n := nt) (N3.get (.head _))) (by decide) (by omega) (by decide) (x := .str (strOf (pre.foldl lstep ⟨txt, 128, -1⟩).txt) t4) (by rw [htl, show ((-2 : Int) + ((pre.length + (0 + 1) + 1 : Nat) : Int)).toNat = pre.length by omega]; exact hv4) ?_
  k_extra "go3"
  · exact ne_same (by assumption)
  rename Fr _ _ _ _ => F4
  rename News _ _ _ _ => N4
  refine cut_By (s := ⟨_, _, _, _, _⟩) (x := encAll up txt.length 0 72 (pre ++ [700])) (clip_last _) F4 N4 (by omega) fun h5 t5 tk5 F5 N5 => ?_
  clear F4 N4 hla hv4 hst
  k_extra "go3"
  refine TellsX.use (refused_tells w mean mg mb ⟨txt, _, _, pre, [700]⟩ _ _ hP (fun q => nomatch q)) B3 F5 XB N5 TB (fun b hb => nomatch hb) rfl trivial (Room.down hroom rfl) ?_
  rintro _ g6' g6 h6 tk6 tu6 st6 T6 B6 F6 N6 rfl
  have X6 := XB.keeps B6.stays
  have TT6 := TB.keeps B6.stays
  clear F5 N5 X3 TT3 tu6 st6
  k_extra "go3"
  obtain ⟨fin, hfin⟩ := fin_of ht hc hpre hl
  obtain ⟨t7, hv7⟩ := strs_at htv hfin.at_
  have hfl := hfin.len
  have hix : ((-1 : Int) + ((pre.length + (0 + 1) + 1 : Nat) : Int)).toNat = pre.length + 1 := by omega
  refine item_neg (PySem.IsL.isList (n := nt) (N6.get (.head _))) (by decide) (by omega) (by decide) (x := .str (strOf fin) t7) (by rw [htl, hix]; exact hv7) ?_
  k_extra "go3"
  refine list_signsT (s := ⟨_, _, _, _, _⟩) rfl F6 N6 (by omega) fun sl c8 h8 F8 N8 ne8 => ?_
  dsimp only at F8 N8 ⊢
  clear F6 N6
  k_extra "go3"
  refine item_neg (PySem.IsL.isList (n := nt) (N8.get (.tail _ (.head _)))) (by decide) (by omega) (by decide) (x := .str (strOf fin) t7) (by rw [htl, hix]; exact hv7) ?_
  clear hv7 hix htv
  k_extra "go3"
  have hfne : fin ≠ [] := fun e => by rw [e] at hfl; exact absurd hfl.symm (by simp)
  refine wpAny_with_toks (n := tk6 + 1 + 1 + fin.length) (by show tk6 + 1 + 1 + fin.length ≤ tk6 + 1 + 1 + fin.length + 1 + 1; omega) (max_text (s := ⟨_, _, _, _, _⟩) rfl hfne fun c t9 h9 tk9 hcm hmx st9 => ?_)
  intro htk9
  have F9 := fr_stays F8 st9
  have N9 := news_stays N8 st9
  have hc9 := hfin.le c hcm
  dsimp only at htk9 F9 N9 ⊢
  clear F8 N8 st9
  k_extra "go3"
  rw [show ((c : Int) + 1).toNat = c + 1 by omega]
  have ht9 : (tk9 + 1 + 1 + 1 : Nat) ≠ 0 := Nat.succ_ne_zero _
  refine TellsX.use (absent_tells w mean mg mb (tokOf (tk6 + 1 + 1) fin (c + 1)) (units fin) [c + 1] sl _ ht9 (tok_new (by show tk6 + 1 + 1 + fin.length ≤ tk9 + 1 + 1 + 1; omega)) (not_unit hmx) (by unfold units; rw [List.length_map]; omega)) B6 F9 XB N9 TB (fun b hb => nomatch hb) rfl (tok_list (N9.get (.head _)) (by omega)) (Room.down hroom rfl) ?_
  rintro _ g10' g10 h10 tk10 tu10 st10 T10 B10 F10 N10 rfl
  exact hret _ _ (stays_turn (T3.trans (T6.trans T10)) F10.keep)

theorem cons_drop {α : Type} {l : List α} {k : Nat} {x : α} (h : l[k]? = some x) : l.drop k = x :: l.drop (k + 1) := by
  obtain ⟨hk, rfl⟩ := List.getElem?_eq_some_iff.mp h
  exact List.drop_eq_getElem_cons hk
theorem num_in {pre : List Int} (h : ∀ x ∈ pre, 0 ≤ x ∧ x < 2000) : ∀ x ∈ pre ++ [700], 0 ≤ x ∧ x < 2000 := fun x hx => (List.mem_append.mp hx).elim (h x) fun q => by rw [List.mem_singleton.mp q]; decide
theorem law_body (w : World) (mean : ExcName → Option Value) (mg mb : Str → Option Value) (ns : List Int) (l : Addr) (fa : Addr) (cd : Value) (hl : ns.length ≤ 63) :
    ∀ (dp un : Nat) (gd : Option (List Code)) (base h₀ : Heap) (L : Addr) (u : Str → Option Value) (s : Shared) (Q : Flow → Shared → Prop),
      Below (Ar dp un gd []) base [] h₀ → (hd.heap_39 w.params).In base → TopF mean mg mb base → IntList h₀ l ns → Room dp un 6 → Fr h₀ L s.heap (ov [("script", .ref l)] u) →
      (∀ h' tk', h₀.StaysIn h' → Q (.ret (.bool true)) { s with heap := h', toks := tk' }) →
      wpC (model PySem.Challenge.rw_nb0162_01.row.prog w) (Ar (dp + 1) (un + 3) gd [envOf "law" lawD.scope L fa cd]) (execs lawD.body (envOf "law" lawD.scope L fa cd)) Q s := by
  intro dp un gd base h₀ L u s Q B XB TB hpre hroom F hret
  have X := XB.keeps B.stays
  have T := TB.keeps B.stays
  obtain ⟨st0, h0⟩ : ∃ st, lawD.body[0]? = some st := ⟨_, rfl⟩
  obtain ⟨st1, h1⟩ : ∃ st, lawD.body[1]? = some st := ⟨_, rfl⟩
  obtain ⟨st2, h2⟩ : ∃ st, lawD.body[2]? = some st := ⟨_, rfl⟩
  obtain ⟨st9, h9⟩ : ∃ st, lawD.body[9]? = some st := ⟨_, rfl⟩
  obtain ⟨st10, h10⟩ : ∃ st, lawD.body[10]? = some st := ⟨_, rfl⟩
  show wpC _ _ (execs (lawD.body.drop 0) _) Q s
  rw [cons_drop h0]
  refine execsC_any (law_st1 w mean mg mb ns l fa cd hl dp un gd base h₀ L u s _ _ st0 B X T hpre hroom F (fun p hp => nomatch hp) h0 ?_)
  intro xs ys D n u1 hh1 tk1 hx1 hx2 hys F1 N1
  refine then_next ?_
  rw [cons_drop h1]
  refine execsC_any (law_st2 w mean mg mb xs fa cd hx1 hx2 hys dp un gd base h₀ L u1 { s with heap := hh1, toks := tk1 } _ _ st1 B X T hroom F1 N1 h1 ?_)
  intro txt tt hh2 tk2 ht hc F2 N2
  refine then_next ?_
  rw [cons_drop h2]
  refine execsC_any (law_st3 w mean mg mb xs fa cd hx1 hys dp un gd base h₀ L u1 { s with heap := hh2, toks := tk2 } _ _ st2 B X T hroom F2 N2 h2 ?_)
  intro pre nv nA nn hh3 tk3 hpl hpre2 hnv F3 N3
  have hnum := num_in hpre2
  have hnl : (pre ++ [700]).length ≤ 8 := by rw [List.length_append]; exact Nat.succ_le_succ hpl
  refine then_next ?_
  refine law_mid w mean mg mb txt (pre ++ [700]) fa cd ht hnum hnl hnv dp un gd base h₀ L (ov [("draws", .ref D)] u1) { s with heap := hh3, toks := tk3 } Q B X T hroom (Fr.eqv F3 fun _ => rfl) N3 ?_
  intro tA tv nt eA ev ne tW tL hh4 tk4 htv hev F4 N4
  rw [cons_drop h9]
  refine execsC_cons (law_for w mean mg mb txt (pre ++ [700]) fa cd ht hnum hnl hnv htv hev dp un gd base h₀ L _ { s with heap := hh4, toks := tk4 } _ st9 B XB TB hroom F4 N4 h9 ?_)
  intro TT5 u5 hh5 tk5 F5 N5
  refine then_next ?_
  rw [cons_drop h10]
  refine execsC_any (law_st11 w mean mg mb txt (pre ++ [700]) fa cd ht hc hnum hnl hnv htv dp un gd base h₀ L TT5 u5 { s with heap := hh5, toks := tk5 } _ _ st10 B XB TB hroom F5 N5 h10 ?_)
  intro TT6 u6 hh6 tk6 F6 N6
  refine then_next (wpC_any ?_)
  exact law_end w mean mg mb txt pre fa cd ht hc hpre2 hpl htv dp un gd base h₀ L TT6 u6 { s with heap := hh6, toks := tk6 } Q _ B XB TB hroom F6 (fun p hp => N6 p (by rw [List.mem_singleton.mp hp]; exact .head _)) fun h' tk' st => hret h' tk' st
theorem law_call (w : World) (mean : ExcName → Option Value) (mg mb : Str → Option Value) (ns : List Int) (l : Addr) (fa : Addr) (cd : Value) (hl : ns.length ≤ 63) :
    ∀ (dp un : Nat) (gd : Option (List Code)) (s : Shared) (Q : Value → Shared → Prop),
      Below (Ar dp un gd []) s.heap [] s.heap → (hd.heap_39 w.params).In s.heap → TopF mean mg mb s.heap → IntList s.heap l ns → Room dp un 6 →
      (∃ o pm doc kV, s.heap.get? fa = some o ∧ o.data = .func { Calls.docDef lawD.name lawD.params lawD.body lawD.scope pm cd doc with defaults := .none, kwdefaults := kV }) → s.heap.CodeRec cd lawD.name →
      (∀ h' tk', s.heap.StaysIn h' → Q (.bool true) { s with heap := h', toks := tk' }) →
      wpC (model PySem.Challenge.rw_nb0162_01.row.prog w) (Ar dp un gd []) (call (.ref fa) [.ref l]) Q s := by
  intro dp un gd s Q B X T hpre hroom ⟨o, pm, doc, kV, ho, hd1⟩ hcd hret
  refine wpC_call (codeC_call_def (binds := [("script", .ref l)]) (Room.here hroom) ho hd1 T.nolimit hcd rfl rfl (by show ∀ x ∈ lawD.scope.names, x.2 ≠ .cell; decide) (locs rfl) (fun h₁ hns hk₁ => ?_) rfl rfl rfl)
  exact wpC_mono (law_body w mean mg mb ns l fa cd hl dp un gd s.heap s.heap s.heap.objs.size _ { s with heap := h₁, toks := _ } _ B X T hpre hroom (Fr.ov ⟨hns, hk₁, Nat.le_refl _⟩ (binds_has (apartB_nodup rfl))) fun h' tk' st => hret h' tk' st) (fun _ _ x => x)

end Mine
theorem PySem.Challenge.cw_nb0162_01_holds : PySem.Challenge.rw_nb0162_01.Holds := by
  refine Mine.hd ?_
  intro w s₀ s₁ mg mb G Y fa o pm cd doc dV kV ho hd1 hcd hD hmg hg args vals as hpre hlay hrd hwl hlo
  have KX := kIn_of Y
  have X := (Ground.X G).1
  have V := (Ground.X G).2
  refine Ground.open G ?_
  intro T B D TE TW
  wrow_args hpre hlay hrd hwl hlo
  rename IntsAre _ _ => hI
  rename Heap.IsList _ _ _ => hL
  rename_i hlen _
  have he := Dflts.none hD rfl
  subst he
  refine Mine.law_call w _ mg mb _ _ fa cd (by omega) _ _ _ s₁ _ (below_caller s₁.heap) KX T ⟨_, hL, hI⟩ ⟨by decide, by decide⟩ ⟨_, _, _, _, ho, hd1⟩ hcd ?_
  intro h' tk' st
  refine GoodW.toG ⟨.inl ⟨_, .bool true, [], rfl, raisesW_false (by wrow_none_raised), ReadsW.bool _, ?_, unshared_nil⟩, st, rfl, hg⟩
  wrow_post

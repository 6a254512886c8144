import PyProof.Rows.All
import Wide.All
import OpenK.AllK
import Wide.FinOn
import PyProof.ListNew
import PyProof.WalkInts
import PySem.Challenge.RW_zo0021_01
set_option Elab.async false
section
open PySem PySem.W PyProof.Rows PySem.Calls
namespace Mine
set_option maxRecDepth 100000
set_option maxHeartbeats 4000000
open Sem (wp)

/-- a code that holds no bytearray: no decoder -/
def heldIds : List String := ["bytearray.__contains__", "bytearray.__mod__", "bytearray.__rmod__", "_struct.pack_into.held", "bytearray.find.held"] ++ Builtin.Bytes.decodersThatHold
def Cln (c : Code) : Prop := ∀ id as, c = .builtin id as → heldIds.contains id = false
def ClnC (Γ : Ctx) : Prop := Cln Γ.code ∧ ∀ x ∈ Γ.below, Cln x.1

def wpC {α : Type} (M : Model) (A : Around) (t : Sem α) (Q : α → Shared → Prop) (E : Value → Shared → Prop) (s : Shared) : Prop :=
  ∀ Γ p, Γ.In A → ClnC Γ → wp M Γ t (fun a _ s' => Q a s') (fun e _ s' => E e s') p s
def codeC (M : Model) (A : Around) (c : Code) (R : Result → Shared → Prop) (s : Shared) : Prop :=
  ∀ Γ p, Γ.code = c → Γ.Below A → (∀ x ∈ Γ.below, Cln x.1) → wpCode M Γ R p s

section
variable {α β : Type} {M : Model} {A : Around} {E : Value → Shared → Prop} {s : Shared}
theorem wpC_of {t : Sem α} {Q : α → Shared → Prop} (h : wpAny M A t Q E s) : wpC M A t Q E s := fun Γ p hΓ _ => h Γ p hΓ
theorem codeC_of {c : Code} {R : Result → Shared → Prop} (h : codeAny M A c R s) : codeC M A c R s := fun Γ p hc hΓ _ => h Γ p hc hΓ
theorem wpC_bind {m : Sem α} {f : α → Sem β} {Q : β → Shared → Prop} (h : wpC M A m (fun a s' => wpC M A (f a) Q E s') E s) : wpC M A (m >>= f) Q E s := fun Γ p hΓ hC => by
  rw [Sem.wp_bind']
  exact Sem.wp_mono M Γ m (fun a p' s' h' => h' Γ p' hΓ hC) (fun _ _ _ h' => h') p s (h Γ p hΓ hC)
theorem wpC_bindA {m : Sem α} {f : α → Sem β} {Q : β → Shared → Prop} (h : wpAny M A m (fun a s' => wpC M A (f a) Q E s') E s) : wpC M A (m >>= f) Q E s := wpC_bind (wpC_of h)
theorem wpC_mono {t : Sem α} {Q Q' : α → Shared → Prop} {E' : Value → Shared → Prop} (h : wpC M A t Q E s) (hQ : ∀ a s, Q a s → Q' a s) (hE : ∀ e s, E e s → E' e s) : wpC M A t Q' E' s :=
  fun Γ p hΓ hC => Sem.wp_mono M Γ t (fun a _ s => hQ a s) (fun e _ s => hE e s) p s (h Γ p hΓ hC)
theorem wpC_holding {vs : List Value} {m : Sem α} {Q : α → Shared → Prop} (h : wpC M A m Q E s) : wpC M A (holding vs m) Q E s :=
  fun Γ p hΓ hC => by rw [Sem.wp_holding]; exact h Γ p hΓ hC
theorem wpC_onRaise {m : Sem α} {k : Value → Sem Unit} {Q : α → Shared → Prop} (h : wpC M A m Q (fun e s' => wpAny M A (k e) (fun _ s'' => E e s'') E s') s) : wpC M A (m.onRaise k) Q E s := fun Γ p hΓ hC => by
  rw [Sem.wp_onRaise]
  exact Sem.wp_mono M Γ m (fun _ _ _ h' => h') (fun e p' s' h' => h' Γ p' hΓ) p s (h Γ p hΓ hC)
theorem wpC_runValue {c : Code} {Q : Value → Shared → Prop} (hc : codeC M A c (fun r s' => match r with | .ok (.ret v) => Q v s' | .ok _ => False | .error e => E e s') s) :
    wpC M A (runValue c) Q E s := fun Γ p hΓ hC => by
  rw [Sem.wp_runValue]
  refine hc _ p rfl (hΓ.enter c none p (by intro x; cases x)) fun x hx => ?_
  rcases List.mem_cons.mp hx with rfl | hx
  · exact hC.1
  · exact hC.2 x hx
theorem wpC_call {f : Value} {pos : List Value} {kw : List (Str × Value)} {Q : Value → Shared → Prop} (hc : codeC M A (.call f ⟨pos, kw⟩) (fun r s' => match r with | .ok (.ret v) => Q v s' | .ok _ => False | .error e => E e s') s) :
    wpC M A (call f pos kw) Q E s := wpC_runValue hc
theorem codeC_of_tree {c : Code} {R : Result → Shared → Prop} (hcl : Cln c)
    (h : wpC M (A.under c) (M.den c) (fun fin s' => match fin with | .done f => R (.ok f) s' | .again c' => c'.quiet = true ∧ codeC M A c' R s')
      (fun e s' => R (.error e) s') s) : codeC M A c R s := fun Γ p hc hΓ hB => by
  rw [wpCode_iff_wp, hc]
  refine Sem.wp_mono M Γ _ (fun fin p' s' h' => ?_) (fun _ _ _ h' => h') p s (h Γ p (hc ▸ hΓ.in) ⟨hc ▸ hcl, hB⟩)
  cases fin with
  | done f => exact h'
  | again c' => exact ⟨h'.1, h'.2 (Γ.goto c') p' rfl (hΓ.goto c') hB⟩
theorem codeC_mono {c : Code} {R R' : Result → Shared → Prop} (h : codeC M A c R s) (hR : ∀ r s, R r s → R' r s) : codeC M A c R' s := fun Γ p hc hΓ hB => wpCode_mono hR (h Γ p hc hΓ hB)
end
end Mine
end
section
open PySem PySem.W PyProof.Rows PySem.Calls
namespace Mine
set_option maxRecDepth 100000
set_option maxHeartbeats 4000000
open Sem (wp)

theorem cln_func (body : List Stmt) (env : Env) : Cln (.func body env) := fun _ _ e => nomatch e
theorem cln_call (f : Value) (a : Args) : Cln (.call f a) := fun _ _ e => nomatch e
theorem cln_id {id : String} (h : heldIds.contains id = false) (a : Args) : Cln (.builtin id a) := fun _ _ e => by cases e; exact h

section
variable {prog : Program} {w : World} {A : Around} {E : Value → Shared → Prop} {s : Shared} {R : Result → Shared → Prop} {env : Env}
theorem wpC_keep {α : Type} {M : Model} {vs : List Value} {m : Sem α} {Q : α → Shared → Prop} (h : wpC M A m Q E s) : wpC M A (m.keep vs) Q E s :=
  fun Γ p hΓ hC => by rw [Sem.wp_keep]; exact h Γ p hΓ hC
theorem codeC_func {body : List Stmt}
    (h : wpC (model prog w) (A.deeper env) (execs body env) (fun f s' => R (.ok (.ret (match f with | .ret v => v | _ => .none))) s')
      (fun e s' => wpAny (model prog w) (A.deeper env) (leaving env e) (fun _ s'' => R (.error e) s'') (fun e' s'' => R (.error e') s'') s') s) :
    codeC (model prog w) A (.func body env) R s := by
  refine codeC_of_tree (cln_func _ _) ?_
  show wpC _ (A.deeper env) (do point; match ← (execs body env).onRaise (leaving env) with | .ret v => ret v | _ => ret .none) _ _ s
  refine wpC_bindA (wpAny_point (wpC_bind (wpC_onRaise (wpC_mono h (fun f s' h' => ?_) fun _ _ h' => h'))))
  cases f <;> exact wpC_of (wpAny_pure h')

theorem codeC_builtin {id : String} {args : Args} {b : Builtin} (hcl : heldIds.contains id = false) (hb : entryFor table id = some b)
    (h : wpC (model prog w) (A.under (.builtin id args)) (b args)
      (fun fin s' => match fin with | .done f => R (.ok f) s' | .again c' => c'.quiet = true ∧ codeC (model prog w) A c' R s') (fun e s' => R (.error e) s') s) :
    codeC (model prog w) A (.builtin id args) R s := by
  refine codeC_of_tree (cln_id hcl _) ?_
  show wpC _ _ (match entryFor table id with | some b => b args | none => unsupported ((withoutEnding? id "#data").getD id)) _ _ s
  rw [hb]; exact h
theorem codeC_call_function {a : Addr} {args : Args} {o : Obj} {fd : FuncData} {body : List Stmt} (hroom : A.depth < recursionLimit)
    (ho : s.heap.get? a = some o)
    (hd' : o.data = .func fd) (hco : fd.scope.isCoroutine = false) (hgen : fd.scope.isGenerator = false) (hbody : fd.body = .stmts body) (hcd : s.heap.CodeRec fd.code fd.qualname)
    (h : wpAny (model prog w) A.in1 (bindArgs fd args) (fun binds s₁ =>
      wpAny (model prog w) A.in1 (newFunctionEnv fd.scope fd.globals fd.closure binds (fd.qualname ++ ".<locals>.") (some a) fd.code none fd.builtins)
        (fun env s₂ => s₂.heap.NoLimit ∧ codeC (model prog w) A (.func body env) R s₂) (fun e s' => R (.error e) s') s₁) (fun e s' => R (.error e) s') s) :
    codeC (model prog w) A (.call (.ref a) args) R s := by
  refine codeC_of_tree (cln_call _ _) ?_
  show wpC _ A.in1 (callAny (.ref a) args) _ _ s
  simp only [callAny]
  refine wpC_bindA (wpAny_load ho ?_)
  obtain ⟨c, oc, vs, tq, hc, hoc, hdc, hq⟩ := hcd
  simp only [hd', callFunction, hco, hgen, hbody, hc]
  rw [hc] at h
  refine wpC_bindA (m := field (.ref c) 1) (wpAny_field hoc hdc hq (wpC_bindA (wpAny_pure ?_)))
  exact wpC_bindA (wpAny_mono h (fun binds s₁ h₁ => wpC_bindA (wpAny_mono h₁ (fun env s₂ h₂ => wpC_bindA (wpAny_enterFrame h₂.1 hroom
    (wpC_of (wpAny_pure (And.intro rfl h₂.2))))) fun _ _ h' => h')) fun _ _ h' => h')

theorem wpC_execs_cons {M : Model} {st : Stmt} {rest : List Stmt} {Q : Flow → Shared → Prop}
    (h : wpC M A (exec st env) (fun f s' => match f with | .next => wpC M A (execs rest env) Q E s' | f => Q f s') E s) :
    wpC M A (execs (st :: rest) env) Q E s := fun Γ p hΓ hC => by
  rw [execs_cons, Sem.wp_bind']
  refine Sem.wp_mono M Γ _ (fun f p' s' h' => ?_) (fun _ _ _ h' => h') _ _ (h Γ p hΓ hC)
  cases f <;> first | exact h' Γ p' hΓ hC | exact h'
theorem wpC_execs_app {M : Model} {rest : List Stmt} {Q : Flow → Shared → Prop} : ∀ (pre : List Stmt) {s : Shared},
    wpAny M A (execs pre env) (fun f s' => match f with | .next => wpC M A (execs rest env) Q E s' | f => Q f s') E s → wpC M A (execs (pre ++ rest) env) Q E s
  | [], s, h => fun Γ p hΓ hC => (h Γ p hΓ) Γ p hΓ hC
  | st :: pre, s, h => fun Γ p hΓ hC => by
    have h1 := h Γ p hΓ
    show wp M Γ (execs (st :: (pre ++ rest)) env) _ _ p s
    rw [execs_cons, Sem.wp_bind'] at h1 ⊢
    refine Sem.wp_mono M Γ _ (fun f p' s' h' => ?_) (fun _ _ _ h' => h') _ _ h1
    have step : ∀ (s' : Shared) (p' : Pos), wp M Γ (execs pre env) (fun f _ s'' => match f with | .next => wpC M A (execs rest env) Q E s'' | f => Q f s'') (fun e _ s'' => E e s'') p' s' → wp M Γ (execs (pre ++ rest) env) (fun f _ s'' => Q f s'') (fun e _ s'' => E e s'') p' s' := by
      clear h h1 h'
      induction pre with
      | nil => exact fun s' p' h => h Γ p' hΓ hC
      | cons st pre ih =>
        intro s' p' h
        show wp M Γ (execs (st :: (pre ++ rest)) env) _ _ p' s'
        rw [execs_cons, Sem.wp_bind'] at h ⊢
        refine Sem.wp_mono M Γ _ (fun f p'' s'' h' => ?_) (fun _ _ _ h' => h') _ _ h
        cases f <;> first | exact ih _ _ h' | exact h'
    cases f <;> first | exact step _ _ h' | exact h'
theorem wpC_Assign_Name {M : Model} {x : Str} {pos' pos : Pos} {value : PySem.Expr} {Q : Flow → Shared → Prop}
    (h : wpC M A (eval value env) (fun v s₁ => wpAny M A (storeName env x v) (fun _ => Q .next) E s₁) E s)
    (hs : swapsWith value (some (.Name x pos')) pos.line env = pure false := by rfl) :
    wpC M A (exec (.Assign [.Name x pos'] value pos) env) Q E s := fun Γ p hΓ hC => by
  simp only [exec_Assign_Name env x pos' value pos hs, Sem.wp_bind', Sem.wp_cmd_standAt, Sem.wp_bindName, Sem.wp_pure']
  exact Sem.wp_mono M Γ _ (fun v _ s₁ h₁ => h₁ Γ _ hΓ) (fun _ _ _ h' => h') _ _ (h Γ _ hΓ hC)
theorem wpC_Call {M : Model} {func : PySem.Expr} {args : List PySem.Expr} {pos : Pos} {Q : Value → Shared → Prop}
    (h : wpAny M A (eval func env) (fun f s₁ => wpC M A (callWith pos f [] (backTo pos (starEach args env)) []) Q E s₁) E s)
    (he : eval (.Call func args [] pos) env = (do callWith pos (← eval func env) [] (backTo pos (starEach args env)) (backToKw pos (keywordEach [] env))) := by rfl) :
    wpC M A (eval (.Call func args [] pos) env) Q E s := by
  rw [he]; exact wpC_bindA h
theorem wpC_callWith {M : Model} {K : Frag} {f : Value} {pos : Pos} {e : PySem.Expr} {rest : List PySem.Expr} {Q : Value → Shared → Prop} (hk : keepIn K f = true)
    (h : wpAny M A (spliced (backTo pos (starEach (e :: rest) env))) (fun vs s₁ => K.In s₁.heap ∧ wpC M A (call f vs) Q E s₁) E s)
    (he : starEach (e :: rest) env = (false, eval e env) :: starEach rest env := by rfl) (hplain : (backTo pos (starEach rest env)).any (·.1) = false := by rfl) :
    wpC M A (callWith pos f [] (backTo pos (starEach (e :: rest) env)) []) Q E s := by
  rw [he] at h ⊢
  have hpl : (((backTo pos ((false, eval e env) :: starEach rest env)).any (·.1)) || ([] : List (Option Str × Sem Value)).any (·.1.isNone)) = false := by show ((false || (backTo pos (starEach rest env)).any (·.1)) || false) = false; rw [hplain]; rfl
  unfold callWith
  refine wpC_bind (wpC_holding (wpC_of (wpAny_mono (evalArgs_plain (Q := fun a s₁ => K.In s₁.heap ∧ wpC M A (call f a.pos a.kw) Q E s₁) h) (fun a s₁ h₁ => wpC_bindA (wpAny_standAt ?_)) fun _ _ x => x)))
  obtain ⟨k, hk', L⟩ := keeps_K (M := M) hk _ h₁.1
  simp only [hpl]
  refine wpC_bindA (L.here ?_)
  have tail : ∀ {t : Sem Value}, wpC M A t Q E s₁ → wpC M A (t >>= fun r => holding [r] point >>= fun _ => pure r) Q E s₁ :=
    fun ht => wpC_bind (wpC_mono ht (fun r s₂ hr => wpC_bindA (wpAny_holding (wpAny_point (wpC_of (wpAny_pure hr))))) fun _ _ x => x)
  have h2 : wpC M A (call f ([] ++ a.pos) a.kw) Q E s₁ := h₁.2
  have marked (mk : Value) : wpC M A (callMarked mk f ([] ++ a.pos) a.kw) Q E s₁ := by
    unfold callMarked
    exact wpC_keep h2
  rcases hk' with rfl | rfl | rfl <;> dsimp only <;> first | exact tail h2 | (split <;> first | exact tail h2 | exact tail (marked _))
end
end Mine
end
section
open PySem PySem.W PyProof.Rows PySem.Calls
namespace Mine
set_option maxRecDepth 1000000
set_option maxHeartbeats 4000000
open Sem (wp)

theorem mro_ba : mroOf (.type "bytearray") = pure [.type "bytearray", .type "object"] := by rw [mroOf_type]; kernel_rfl
theorem lookup_ba_new : typeLookup (.type "bytearray") "__new__" = pure (some (.builtin "bytearray.__new__")) := by rw [typeLookup_type, builtinLookup_eq_fast]; kernel_rfl
theorem slot_ba_init : Slot "bytearray" "__init__" "bytearray.__init__" :=
  .of (owner := "bytearray") (n := "__init__") (by rw [typeLookup_type, builtinLookup_eq_fast]; kernel_rfl) (by decide +kernel) (by decide +kernel) (by decide +kernel)
    (by first | exact .inl (by decide +kernel) | exact .inr (by decide +kernel)) (by rw [isSubtype_type]; kernel_rfl)
theorem called_ba : TypeCalled "bytearray" "bytearray.__new__" "bytearray.__init__" :=
  ⟨by decide +kernel, by decide +kernel, ⟨_, _, mro_ba⟩, madeBy_type mro_ba lookup_ba_new (by decide +kernel), by decide +kernel, by rw [isSubtype_type]; kernel_rfl, slot_ba_init⟩
theorem typeCall_ba (a : Value) : checkTypeCall "bytearray" ⟨[a], []⟩ = pure () := by kernel_rfl
theorem newCall_ba (a : Value) : checkBuiltinCall "bytearray.__new__" ⟨[.type "bytearray", a], []⟩ = pure () := by kernel_rfl
theorem entry_ba_new : entryFor table "bytearray.__new__" = some Builtin.«list.__new__» :=
  entryFor_alias (id' := "list.__new__") (by kernel_rfl) (by first | rfl | decide +kernel) (by decide +kernel) (by kernel_rfl)
theorem entry_ba_init : entryFor table "bytearray.__init__" = some Builtin.«bytearray.__init__» := entryFor_of_tree (by kernel_rfl)
theorem plain_ba_new : plainId "bytearray.__new__" = true := by decide +kernel
theorem owner_ba_new : ("bytearray.__new__".splitOn ".__new__").headD "" = "bytearray" := by simp +decide [String.splitOn, String.splitOnAux]
theorem sub_ba_self : isSubtype (.type "bytearray") (.type "bytearray") = pure true := by rw [isSubtype_type]; kernel_rfl

section
variable {prog : Program} {w : World} {A : Around} {E : Value → Shared → Prop} {s : Shared}
theorem code_ba_new (a : Value) {Q₁ : Value → Shared → Prop}
    (h : Q₁ (.ref s.heap.objs.size) { s with heap := s.heap.push { cls := .type "bytearray", data := .bytearray #[] } }) :
    codeAny (model prog w) A (.call (.builtin "bytearray.__new__") ⟨[.type "bytearray", a], []⟩) (wants Q₁ E) s := by
  refine codeAny_of_tree ?_
  show wpAny _ A.in1 (do checkBuiltinCall "bytearray.__new__" ⟨[.type "bytearray", a], []⟩; again (.builtin "bytearray.__new__" ⟨[.type "bytearray", a], []⟩)) _ _ s
  refine wpAny_bind (wpAny_of_eq (newCall_ba a) (wpAny_pure ⟨plainId_quiet plain_ba_new _, codeAny_builtin_stack entry_ba_new rfl fun p st => ?_⟩))
  rw [Around.under_plainId plain_ba_new _]
  have hsub := sub_ba_self
  have hown := owner_ba_new
  obtain ⟨hp, g, d, tk, os⟩ := s
  simp only [hown]
  wp_walk
  exact h

end
end Mine
end
section
open PySem PySem.W PyProof.Rows PySem.Calls
namespace Mine
set_option maxRecDepth 100000
set_option maxHeartbeats 4000000
open Sem (wp)
section
variable {prog : Program} {w : World} {A : Around} {E : Value → Shared → Prop} {s : Shared}
theorem callType_C {T newId initId : String} {Bi : Builtin} {args : List Value} {Q Q₁ : Value → Shared → Prop} (ft : TypeCalled T newId initId) (hcl : heldIds.contains initId = false)
    (hct : checkTypeCall T ⟨args, []⟩ = pure ()) (entryI : entryFor table initId = some Bi)
    (hnew : codeAny (model prog w) A.in1 (.call (.builtin newId) ⟨.type T :: args, []⟩) (wants Q₁ E) s)
    (hnext : ∀ obj s₁, Q₁ obj s₁ → s₁.TypeIs obj T ∧ argsOk initId ⟨obj :: args, []⟩ ∧
      wpC (model prog w) A.in1.in1 (Bi ⟨obj :: args, []⟩)
        (fun fin s' => fin = .done (.ret .none) ∧ Q obj s') E s₁) :
    wpC (model prog w) A (call (.type T) args) Q E s := by
  obtain ⟨c, tl, hmro⟩ := ft.mro
  have hmade := ft.made
  have hsub := ft.sub
  refine wpC_call (codeC_of_tree (cln_call _ _) ?_)
  show wpC _ _ (callAny (.type T) _) _ _ _
  refine wpC_of (wpAny_pure ⟨Code.quiet_builtin _ (by decide +kernel), codeC_builtin (by decide +kernel) F.entry_type_call ?_⟩)
  rw [Around.under_plain (weight_type_call_type T args []) rfl]
  have h1 := ft.notType
  have h2 := ft.canCreate
  unfold Builtin.«type.__call__»
  simp only [h1, h2, Bool.false_eq_true, if_false, hct, hmro, hmade, pure_bind, List.isEmpty_cons]
  refine wpC_bind (wpC_holding (wpC_of (wpAny_call (codeAny_mono hnew fun r s₁ hr => ?_))))
  cases r with
  | error e => exact hr
  | ok fl =>
    cases fl with
    | ret obj =>
      obtain ⟨hT, hok, hsi⟩ := hnext _ _ hr
      have hli := ft.init.lookup
      have hbi := ft.init.bind obj
      refine wpC_bindA (wpAny_isInstance hT hsub ?_)
      simp only [Bool.not_true, Bool.false_eq_true, if_false]
      refine wpC_bind (wpC_holding ?_)
      unfold callSpecial?
      refine wpC_bindA (wpAny_specialOf hT hli ?_)
      dsimp only
      refine wpC_holding (wpC_bindA (wpAny_of_eq hbi ?_))
      dsimp only
      refine wpC_bind (wpC_call (codeC_of_tree (cln_call _ _) ?_))
      show wpC _ _ (do checkBuiltinCall initId ⟨obj :: args, []⟩; again (.builtin initId ⟨obj :: args, []⟩)) _ _ _
      refine wpC_bindA (ft.init.check _ _ _ _ _ _ _ _ hT hok (wpC_of (wpAny_pure ⟨plainId_quiet ft.init.plain _, codeC_builtin hcl entryI ?_⟩)))
      rw [Around.under_plainId ft.init.plain _]
      refine wpC_mono hsi ?_ fun _ _ x => x
      rintro fin s' ⟨rfl, hq⟩
      refine wpC_of (wpAny_pure ?_)
      dsimp only
      rw [if_neg (by decide)]
      exact wpC_of (wpAny_pure hq)
    | _ => exact hr.elim
end
end Mine
end
section
open PySem PySem.W PyProof.Rows PySem.Calls
namespace Mine
set_option maxRecDepth 100000
set_option maxHeartbeats 4000000
open Sem (wp)
section
variable {M : Model} {A : Around} {E : Value → Shared → Prop} {s : Shared}
theorem wpC_exported {self : Value} {Q : Bool → Shared → Prop} (h : Q false s) : wpC M A (Builtin.Bytes.exported self) Q E s := fun Γ p hΓ hC => by
  unfold Builtin.Bytes.exported
  refine (show ∀ b, b = false → Q b s from fun b hb => hb ▸ h) (((Γ.code, p) :: Γ.below).any _) ?_
  rw [List.any_eq_false]
  intro x hx
  have hc : Cln x.1 := (List.mem_cons.mp hx).elim (fun e => by rw [e]; exact hC.1) (hC.2 x)
  split
  · exact absurd (hc _ _ rfl) (by decide +kernel)
  · exact absurd (hc _ _ rfl) (by decide +kernel)
  · exact absurd (hc _ _ rfl) (by decide +kernel)
  · exact absurd (hc _ _ rfl) (by decide +kernel)
  · exact absurd (hc _ _ rfl) (by decide +kernel)
  · have h1 := hc _ _ rfl
    unfold heldIds at h1
    rw [List.contains_eq_any_beq, List.any_append, Bool.or_eq_false_iff] at h1
    rw [List.contains_eq_any_beq, h1.2, Bool.and_false]
    exact Bool.false_ne_true
  · exact Bool.false_ne_true
end
end Mine
end
section
open PySem PySem.W PyProof.Rows PySem.Calls
namespace Mine
set_option maxRecDepth 100000
set_option maxHeartbeats 4000000
open Sem (wp)
abbrev baO (b : Array UInt8) : Obj := { cls := .type "bytearray", data := .bytearray b }
theorem lookup_ba_rel : typeLookup (.type "bytearray") "__release_buffer__" = pure (some (.builtin "bytearray.__release_buffer__")) := by rw [typeLookup_type, builtinLookup_eq_fast]; kernel_rfl
theorem bind_opt (v : Value) : Builtin.Bytes.bindOptional "bytearray.__init__" "bytearray" ["source", "encoding", "errors"] [v] [] = pure [some v, none, none] := by
  first | rfl | kernel_rfl
theorem rel_ends : ("bytearray.__release_buffer__".endsWith ("." ++ "__release_buffer__")) = true := by decide +kernel
theorem rel_own : "bytearray.__release_buffer__".dropRight ("__release_buffer__".length + 1) = "bytearray" := by decide +kernel
section
variable {M : Model} {prog : Program} {w : World} {A : Around} {E : Value → Shared → Prop} {s : Shared} {a : Addr} {b : Array UInt8}
theorem wp_ownRelease {Q : Bool → Shared → Prop} (hT : s.TypeIs (.ref a) "bytearray") (h : Q false s) : wpAny M A (Builtin.Bytes.ownRelease (.ref a)) Q E s := by
  unfold Builtin.Bytes.ownRelease Builtin.Bytes.slotIsOwn
  refine wpAny_bind (wpAny_bind (wpAny_specialOf hT lookup_ba_rel ?_))
  dsimp only
  rw [rel_ends, rel_own, if_neg (by decide)]
  exact wpAny_isInstance hT sub_ba_self (wpAny_pure h)
theorem wp_write {f : Array UInt8 → Array UInt8} {Q : Unit → Shared → Prop} (ho : s.heap.get? a = some (baO b)) (hz : (f b).size ≤ 1048576)
    (h : Q () { s with heap := s.heap.update a (Obj.mapBytearray f) }) : wpAny M A (Builtin.Bytes.write (.ref a) f) Q E s := by
  show wpAny M A (updateBytearray a f) Q E s
  unfold updateBytearray
  refine wpAny_bind (wpAny_load ho ?_)
  dsimp only
  refine wpAny_bind (wpAny_update ho ?_)
  refine wpAny_lookBehind (o := baO (f b)) (Heap.get?_update_self _ ho rfl) ?_ h
  show Data.pastItsLine (.bytearray (f b) 0) = none
  unfold Data.pastItsLine
  simp only [sizeLine_eq]
  first
    | (rw [if_neg (by omega)])
    | (simp; omega)
theorem ba_upd {f : Array UInt8 → Array UInt8} (ho : s.heap.get? a = some (baO b)) : (s.heap.update a (Obj.mapBytearray f)).get? a = some (baO (f b)) := Heap.get?_update_self _ ho rfl
theorem wp_asStr_int {n : Int} {t : Tok} {Q : Option Str → Shared → Prop} (h : Q none s) : wpAny M A (asStr? (.int n t)) Q E s := by
  show wpAny M A (do notAStandIn (.int n t); pure none) Q E s
  exact wpAny_bind (wpAny_pure (wpAny_pure h))

theorem init_ba {n : Int} {t : Tok} {Q : Shared → Prop} (ho : s.heap.get? a = some (baO #[])) (h0 : 0 < n) (h1 : n ≤ 1000)
    (h : Q { s with heap := (s.heap.update a (Obj.mapBytearray fun _ => #[])).update a (Obj.mapBytearray fun _ => Array.replicate n.toNat 0) }) :
    wpC (model prog w) A (Builtin.«bytearray.__init__» ⟨[.ref a, .int n t], []⟩) (fun fin s' => fin = .done (.ret .none) ∧ Q s') E s := by
  have hT : s.TypeIs (.ref a) "bytearray" := ⟨_, ho, rfl⟩
  unfold Builtin.«bytearray.__init__»
  refine wpC_bindA (wp_ownRelease hT ?_)
  rw [if_neg (by decide)]
  rw [bind_opt]
  refine wpC_bindA (wpAny_pure ?_)
  refine wpC_bindA (wpAny_pure ?_)
  refine wpC_bindA (wpAny_pure ?_)
  refine wpC_bind ?_
  unfold orM
  refine wpC_bind (wpC_exported ?_)
  refine wpC_of (show wpAny _ _ (do let k ← Builtin.Bytes.exportsOf (.ref a); pure (decide (k > 0))) _ _ _ from wpAny_bind (show wpAny _ _ (do match (← load a).data with | .bytearray _ n => pure n | _ => pure 0) _ _ _ from wpAny_bind (wpAny_load ho (wpAny_pure (wpAny_pure ?_)))))
  rw [if_neg (by decide)]
  refine wpC_of (wpAny_bind (wp_write ho (by decide) ?_))
  refine wpAny_bind (wp_asStr_int ?_)
  rw [if_neg (by decide)]
  rw [if_neg (by decide)]
  rw [if_neg (by decide)]
  refine wpAny_bind (show wpAny _ _ (pure ()) _ _ _ from wpAny_pure ?_)
  refine wpAny_bind (wpAny_specialOf (name := Str.ofString "__index__") (typeIs_int _ n t) F.slot_int_index.lookup ?_)
  rw [if_pos (by decide)]
  refine wpAny_bind (wpAny_attempt ?_)
  refine (show wpAny _ _ (asIndex (.int n t)) _ _ _ from wpAny_bind (wpAny_pure (wpAny_pure ?_)))
  dsimp only
  rw [if_neg (by unfold Builtin.Bytes.fitsIndex; simp; omega), if_neg (by omega), if_neg (by simp; omega), if_neg (by unfold Builtin.Bytes.tooLong; rw [sizeLine_eq]; simp; omega)]
  refine wpAny_bind (wpAny_rule ?_)
  rw [if_pos (by omega)]
  refine wpAny_bind (wp_write (ba_upd ho) (by rw [Array.size_replicate]; omega) ?_)
  exact wpAny_pure ⟨rfl, h⟩
end
end Mine
end
section
open PySem PySem.W PyProof.Rows PySem.Calls
namespace Mine
set_option maxRecDepth 100000
set_option maxHeartbeats 4000000
open Sem (wp)
theorem owner_ba : Manifest.owners.lookup (String.ofList ['y','a','r','r','a','e','t','y','b'].reverse) = some Manifest.sig_bytearray := by kernel_rfl
theorem args_ba_init (a b : Value) : argsOk "bytearray.__init__" ⟨[a, b], []⟩ := by
  unfold argsOk
  first
  | (rw [signature?_of (id := "bytearray.__init__") (n := ['_','_','t','i','n','i','_','_']) (o := ['y','a','r','r','a','e','t','y','b']) (by kernel_rfl) owner_ba]; kernel_rfl)
  | trivial
section
variable {prog : Program} {w : World} {A : Around} {E : Value → Shared → Prop} {s : Shared} {h₀ : Heap} {L : Addr} {m : Str → Option Value} {news : List (Addr × Obj)}
theorem made_N {h h' : Heap} {o : Obj} (F : Fr h₀ L h m) (N : News h₀ L h news) (hk : ∀ b o, h.get? b = some o → h'.get? b = some o) (hX : h'.get? h.objs.size = some o) :
    News h₀ L h' ((h.objs.size, o) :: news) := by
  obtain ⟨oL, _, _, hL, _⟩ := F.ns
  intro p hp
  rcases List.mem_cons.mp hp with rfl | hp
  · refine ⟨hX, Nat.ne_of_gt (Heap.lt_size hL), ?_⟩
    cases hq : h₀.get? h.objs.size with
    | none => rfl
    | some o' => exact absurd (Heap.lt_size (F.keep _ _ hq)) (Nat.lt_irrefl _)
  · exact ⟨hk _ _ (N p hp).1, (N p hp).2.1, (N p hp).2.2⟩
theorem wpC_bytearray {n : Int} {t : Tok} {Q : Value → Shared → Prop} (F : Fr h₀ L s.heap m) (N : News h₀ L s.heap news) (h0 : 0 < n) (h1 : n ≤ 1000)
    (h : ∀ a h', Fr h₀ L h' m → News h₀ L h' ((a, baO (Array.replicate n.toNat 0)) :: news) → (∀ p ∈ news, p.1 < a) → Q (.ref a) { s with heap := h' }) :
    wpC (model prog w) A (call (.type "bytearray") [.int n t]) Q E s := by
  have hX : (s.heap.push (baO #[])).get? s.heap.objs.size = some (baO #[]) := Heap.get?_push_size _ rfl
  refine callType_C (Q₁ := fun obj s₁ => obj = .ref s.heap.objs.size ∧ s₁ = { s with heap := s.heap.push (baO #[]) }) called_ba (by decide +kernel) (typeCall_ba _) entry_ba_init (code_ba_new _ ⟨rfl, rfl⟩) ?_
  rintro obj s₁ ⟨rfl, rfl⟩
  refine ⟨⟨_, hX, rfl⟩, args_ba_init _ _, init_ba hX h0 h1 ?_⟩
  have hk : ∀ b o, s.heap.get? b = some o → (((s.heap.push (baO #[])).update s.heap.objs.size (Obj.mapBytearray fun _ => #[])).update s.heap.objs.size (Obj.mapBytearray fun _ => Array.replicate n.toNat 0)).get? b = some o := fun b o e => by
    have hne : s.heap.objs.size ≠ b := Ne.symm (Nat.ne_of_lt (Heap.lt_size e))
    exact (Heap.get?_update_other _ _ hne).trans ((Heap.get?_update_other _ _ hne).trans (Heap.get?_push_of_some _ e))
  exact h _ _ (F.grownK hk) (made_N F N hk (Heap.get?_update_self _ (Heap.get?_update_self _ hX rfl) rfl)) fun p hp => Heap.lt_size (N p hp).1
end
end Mine
end
section
open PySem PySem.W PyProof.Rows PySem.Calls
namespace Mine
set_option maxRecDepth 100000
set_option maxHeartbeats 4000000
open Sem (wp)
abbrev Γc : Ctx := ⟨.builtin "claim.caller" {}, none, none, [], none⟩
theorem caller_cln : ClnC Γc := ⟨cln_id (by decide +kernel) _, fun _ hx => (nomatch hx)⟩

theorem ends_C {prog : Program} {w : World} {t : Sem Fin} {s : Shared} {R : Result → Shared → Prop} (hreg : s.asleep)
    (h : wpC (model prog w) callerA t (fun fin s' => ∃ f, fin = .done f ∧ (R (.ok f) s' ∧ leftWithCleanup s'.gens = false)) (fun e s' => R (.error e) s' ∧ leftWithCleanup s'.gens = false) s) :
    ∃ n r s' s'', runN (denote table) prog w n s ⟨t, .builtin "claim.caller" {}, default, []⟩ = .halted (outcomeOf r) s' ∧
      schedN (denote table) prog w n (.single s ⟨t, .builtin "claim.caller" {}, default, []⟩) = .halted (outcomeOf r) s' ∧ s'.forget = s''.forget ∧ R r s'' := by
  have h1 : wp (model prog w) Γc t (Sem.finPost (model prog w) Γc (fun r s' => R r s' ∧ leftWithCleanup s'.gens = false)) (fun e _ s' => R (.error e) s' ∧ leftWithCleanup s'.gens = false) default s := by
    refine Sem.wp_mono _ Γc t (fun fin p' s' h' => ?_) (fun _ _ _ h' => h') default s (h Γc default caller_in caller_cln)
    obtain ⟨f, rfl, hf⟩ := h'
    exact hf
  obtain ⟨n, r, s₁, s₂, hs, hn, hfo, hR⟩ := wp_halts_full (M := model prog w) (R := R) hreg h1
  exact ⟨n, r, s₂, s₁, hn, hs, hfo, hR⟩

theorem callFrom_C {c : ClaimW} {tree : List Value → Sem Fin} {w : World} {s : Shared} {free : Addr → Prop} {gens : Prop} {kept : Heap → Prop} (hz : s.asleep) (hgens : s.gens = #[])
    (hspec : ∀ args, c.pre args = true → WData.layableAll args = true →
      ∀ ord : List DictEntry → List DictEntry, (∀ l, (ord l).Perm l) →
      ∃ vs s₁, layAllW c.records (classAt s.heap) w.params ord args s = some (vs, s₁) ∧
        wpC (model c.prog w) callerA (tree vs) (fun fin s' => ∃ f, fin = .done f ∧ (c.Ends s args vs s₁ (.ok f) s' ∧ s'.os = s.os ∧ AllBare s'.gens ∧ kept s'.heap))
          (fun e s' => c.Ends s args vs s₁ (.error e) s' ∧ s'.os = s.os ∧ AllBare s'.gens ∧ kept s'.heap) s₁) :
    c.CallFrom (fun vs => ⟨tree vs, .builtin "claim.caller" {}, default, []⟩) w free gens kept s := by
  intro args hpre hlay ord hord
  obtain ⟨vs, s₁, hlaid, hcode⟩ := hspec args hpre hlay ord hord
  have hal := layAllW_rest _ _ _ hlaid
  obtain ⟨k, r, s', s'', hrun, hsched, hfo, hcase, hos, hkp⟩ := ends_C (prog := c.prog) (w := w) (t := tree vs) (s := s₁)
    (R := fun r s' => c.Ends s args vs s₁ r s' ∧ s'.os = s.os ∧ kept s'.heap)
    (Shared.asleep_of_life hal.2.2.2 hz)
    (wpC_mono hcode (by
      rintro fin s' ⟨f, e, h1, h2, h3, h4⟩
      exact ⟨f, e, ⟨h1, h2, h4⟩, leftWithCleanup_false_of_bare h3⟩) (by
      rintro e s' ⟨h1, h2, h3, h4⟩
      exact ⟨⟨h1, h2, h4⟩, leftWithCleanup_false_of_bare h3⟩))
  obtain ⟨eh, _, _, eo, _⟩ := Shared.forget_eq hfo
  have hcase := hcase.congr eh
  have hkp : kept s'.heap := by first | exact eh ▸ hkp | (rw [eh] at hkp; exact hkp) | (rw [← eh] at hkp; exact hkp)
  rw [← eo] at hos
  have hlife : s'.heap.life = s.heap.life := (runN_life _ _ _ hrun).trans hal.2.2.2
  refine ⟨vs, s₁, hlaid, k, _, s', hsched, ?_, (fun _ i x hx => by rw [hgens] at hx; simp at hx), hkp, by rw [hlife], Shared.rest_eq hos⟩
  rcases hcase with ⟨v, rfl, d1, d2, d3, d4, d5⟩ | ⟨e, ob, cls, rfl, d1, d2, d3, d4, d5⟩
  · exact .inl ⟨v, rfl, d1, d2, d3, fun b o y _ => d4 b o y, d5⟩
  · exact .inr ⟨e, ob, cls, rfl, d1, d2, d3, d4, fun b o y _ => d5 b o y⟩

abbrev WalkC (q : Program) (loose : List Str) (XP : (Str → Option Value) → Heap → Prop) (YP : World → Heap → Prop) (r : RowW) (d : DefRec) (kwd : List (Str × PySem.Expr)) (run : Value → List Value → Sem Value) : Prop :=
  ∀ (w : World) (s₀ s₁ : Shared) (mg mb : Str → Option Value), Ground q loose r.records XP w s₀ mg mb s₁.heap → YP w s₁.heap → ∀ (a : Addr) (o : Obj) (pm cd doc dV kV : Value), s₁.heap.get? a = some o →
    o.data = .func { docDef d.name d.params d.body d.scope pm cd doc with defaults := dV, kwdefaults := kV } → s₁.heap.CodeRec cd d.name → Dflts mg s₁.heap d.params kwd dV kV → mg d.name = some (.ref a) → s₁.gens = #[] →
    ∀ (args : List WData) (vals : List Value) (as : List Addr), r.claim.pre args = true → WData.layableAll args = true → ReadsAllW r.records (classAt s₀.heap) s₁.heap vals args as → WellAll w.params s₁.heap vals args → (∀ a ∈ as, (a == sysModules) = false) →
      wpC (model r.prog w) callerA (run (.ref a) vals) (fun v s' => GoodWG r.claim (classAt s₀.heap) (ExcName.means s₀.heap) args s₁ (.ok (.ret v)) s')
        (fun e s' => GoodWG r.claim (classAt s₀.heap) (ExcName.means s₀.heap) args s₁ (.error e) s') s₁

theorem PySem.W.holds_open {r : OpenRow} {q : Program} {loose : List Str} {Xt : Shared → Bool} {XP : (Str → Option Value) → Heap → Prop} {α : Type} {Yf : Shared → α} {Ya : World → α} {YP : World → Heap → Prop} {d : DefRec} {kwd : List (Str × PySem.Expr)} {N : Nat}
    (left : LeftO r.prog q loose Xt Yf Ya N) (hY : ∀ w s, Yf s = Ya w → YP w s.heap) (hYk : ∀ w h h', YP w h → (∀ b o, h.get? b = some o → h'.get? b = some o) → YP w h')
    (hX : ∀ s, Xt s = true → XP (s.heap.nsMap mainGlobals) s.heap) (hXk : ∀ mg h h', XP mg h → (∀ b o, h.get? b = some o → h'.get? b = some o) → XP mg h')
    (hdef : defOf q r.name = some (d, kwd)) (hp : r.prog.theDef r.name = some (d.params, d.body, d.scope)) (hk : kwWritten? d.params.kwonlyargs d.params.kw_defaults = some kwd) (hRf : ∀ s, Xt s = true → RecFacts r.records s.heap) (hwr : (!r.writes || r.records.isEmpty) = true)
    (k1 : r.wellSaid = true) (ok : (chainsOk q && opensWell r.prog && (frees r.toRowW && r.within.isEmpty)) = true) (hb : r.prog.bare) (hw : r.toRowW.promised)
    (call : WalkC q loose XP YP r.toRowW d kwd fun f vs => PySem.call f vs) : r.Holds := by
  obtain ⟨ok, k5⟩ := Bool.and_eq_true_iff.mp ok
  obtain ⟨hch, o1⟩ := Bool.and_eq_true_iff.mp ok
  obtain ⟨k5, k6⟩ := Bool.and_eq_true_iff.mp k5
  obtain ⟨hsame, hu, ha, hap, hm⟩ := frees_parts k5
  refine ⟨k1, hw, ⟨hb, o1, by show r.makers.map _ = []; rw [hm]; rfl⟩, hw.witness, fun w => ⟨(left.behind hX hch w).1, fun s' hs' => ?_⟩⟩
  obtain ⟨s₀, hf, hg0, s, hT, hz, hgens, hg, G00, y⟩ := (left.behind (XP := fun mg h => XP mg h ∧ RecFacts r.records h) (fun s hs => ⟨hX s hs, hRf s hs⟩) hch w).2 s' hs'
  have G0 : Ground q loose [] XP w s (s.heap.nsMap mainGlobals) (s.heap.nsMap builtinsNs) s.heap := ⟨G00.T, G00.B, G00.D, G00.TE, G00.TD, G00.W, G00.X.1, G00.cls, G00.has, G00.apart, G00.once, G00.K⟩
  have RF := G00.X.2
  have hT' := hT
  refine ⟨s₀, hf, hg0, s, hT, fun n hn => ?_, RF.1, RF.2.1, ?_⟩
  · obtain rfl : n = r.name := by split at hn <;> simp_all
    exact pinned_of_view hg G0 hdef hp hk
  have hgens : s.gens = #[] := Array.eq_empty_of_size_eq_zero (beq_iff_eq.mp hgens)
  have G : Ground q loose r.records XP w s _ _ s.heap := RF.ground G0
  refine callFrom_C (c := r.toRowW.claim) hz hgens fun args hpre hlay ord hord => ?_
  obtain ⟨⟨vs, s₁⟩, hlaid⟩ := Option.isSome_iff_exists.mp (layAllW_isSome (P := w.params) (ord := ord) G.has args r.args s (pre_splitW hpre).1)
  have keeps := layAllW_keeps _ _ _ hlaid
  have hal := layAllW_rest _ _ _ hlaid
  obtain ⟨as, hrd, hin, hold⟩ := reads_layAllW hord _ _ _ hlaid hlay s₁.heap (fun _ _ e => e)
  have L : Laid r.records w s s₁ args vs as := ⟨⟨ord, hord, hlaid⟩, hrd, hin, hold, keeps, hal.1.trans hgens, hal.2.2.1⟩
  have G₁ := G.keeps hXk keeps
  obtain ⟨a, o, pm, cd, doc, dV, kV, h1, h2, h3, h4, h5⟩ := G₁.fn hdef
  have h := call w s s₁ _ _ G₁ (hYk _ _ _ (hY w s y) keeps) a o pm cd doc dV kV h2 h3 h4 h5 (defOf_name hdef ▸ h1) L.gens args vs as hpre hlay L.reads L.well (L.low G.low)
  have hi := ident_freeW hu ha hap
  have hwi : r.toRowW.claim.within = [] := List.isEmpty_iff.mp k6
  refine ⟨vs, s₁, hlaid, ?_⟩
  show wpC _ callerA (do match ← nsGet mainNs r.name with
      | some f => do ret (← PySem.call f vs)
      | none => unsupported "claim.caller:no-such-global") _ _ _
  refine wpC_bindA (wpAny_nsGet G₁.T.g ?_)
  rw [h1]
  refine wpC_bind (wpC_mono h (fun v s' g => wpC_of (wpAny_pure ⟨_, rfl, have z := g.laid (c := r.toRowW.claim) hsame hwi hi L; ⟨z.1, z.2.1, z.2.2, fun q => ⟨namesKept_of hT' hg r.keeps keeps g.2.1.old, noTable hwr q⟩⟩⟩)) fun e s' g => have z := g.laid (c := r.toRowW.claim) hsame hwi hi L; ⟨z.1, z.2.1, z.2.2, fun q => ⟨namesKept_of hT' hg r.keeps keeps g.2.1.old, noTable hwr q⟩⟩)
end Mine
end
section
open PySem PySem.W PyProof.Rows
namespace Mine
set_option maxRecDepth 100000
set_option maxHeartbeats 8000000
open_top hd for PySem.Challenge.rw_zo0021_01
end Mine
end
section
open PySem PySem.W PyProof.Rows
namespace Mine
noncomputable abbrev lawL : List Str := looseW hd.view_39 [Str.ofString "IPV4_RE"]
noncomputable abbrev Cb (w : World) (mean : ExcName → Option Value) (mg mb : Str → Option Value) (f : Addr) (news : List (Addr × Obj)) (A : List (Addr × List Value × List Int)) (pre : Prop) (vs : List Value) (R : Tok → Value) : Prop :=
  CbClaim PySem.Challenge.rw_zo0021_01.row.prog w (hd.heap_39 w.params) hd.view_39 lawL mean mg mb f news A pre vs R
end Mine
end
section
open PySem PySem.W PyProof.Rows
namespace Mine
open PySem.Sre
def hdnCode : Array Nat := #[14, 8, 1, 2, 4294967295, 1, 1, 46, 0, 16, 46, 24, 9, 1, 4294967295, 13, 4, 8, 0, 0, 1, 6, 5, 1]

def digRun (t : Array Nat) : Nat → Nat → Nat
  | 0, _ => 0
  | n + 1, p => if isDigit (t.getD p 0) then digRun t n (p + 1) + 1 else 0

theorem digRun_le (t : Array Nat) : ∀ n p, digRun t n p ≤ n
  | 0, _ => Nat.le_refl _
  | n + 1, p => by unfold digRun; split <;> have := digRun_le t n (p + 1) <;> omega

theorem digRun_digit (t : Array Nat) : ∀ n p k, k < digRun t n p → isDigit (t.getD (p + k) 0) = true
  | 0, _, _, h => by simp [digRun] at h
  | n + 1, p, k, h => by
    unfold digRun at h
    split at h
    · rename_i hd
      cases k with
      | zero => simpa using hd
      | succ k =>
        have := digRun_digit t n (p + 1) k (by omega)
        rwa [show p + (k + 1) = p + 1 + k by omega]
    · omega

theorem accepts_dig (c : Nat) (seen : Sre.Seen) : ∃ seen', accepts hdnCode 15 c seen = .ok (isDigit c, seen') := by
  have h : accepts hdnCode 15 c seen = (do
      if ← ((.ok (isDigit c) : Except String Bool).map (· != false)) then pure (true, (seen.add 8).add 55) else .ok (!true, ((seen.add 8).add 55).add 0)) := rfl
  rw [h]
  cases hd : isDigit c with
  | true => exact ⟨_, rfl⟩
  | false => exact ⟨_, rfl⟩

theorem run_dig (t : Array Nat) : ∀ n p found seen, ∃ seen', Sre.run hdnCode t 15 n p found seen = .ok (found + digRun t n p, seen')
  | 0, p, found, seen => ⟨seen, rfl⟩
  | n + 1, p, found, seen => by
    unfold Sre.run digRun
    obtain ⟨s1, h1⟩ := accepts_dig (t.getD p 0) seen
    rw [h1]
    cases hd : isDigit (t.getD p 0) with
    | true =>
      obtain ⟨s2, h2⟩ := run_dig t n (p + 1) (found + 1) s1
      refine ⟨s2, ?_⟩
      show (if true = true then Sre.run hdnCode t 15 n (p + 1) (found + 1) s1 else pure (found, s1)) = _
      rw [if_pos rfl, h2, if_pos rfl]
      congr 2
      omega
    | false =>
      refine ⟨s1, ?_⟩
      show (if false = true then Sre.run hdnCode t 15 n (p + 1) (found + 1) s1 else pure (found, s1)) = _
      rw [if_neg Bool.false_ne_true, if_neg Bool.false_ne_true]
      rfl

abbrev stt (t : Array Nat) (seen : Sre.Seen) (s pc pos handed : Nat) (ob : Bool) (frames : List Sre.Frame) (w : Nat) (ans : Option Bool) (oc : Option Sre.Outcome) : Sre.M :=
  { code := hdnCode, text := t, lim := t.size, start := s, lastStart := t.size, pc := pc, pos := pos, handed := handed, outermost := ob, marks := #[], frames := frames, weight := w, answer := ans, seen := seen, outcome := oc }

abbrev fN (s : Nat) (ob : Bool) : Sre.Frame := { wait := .nextStart, pc := 9, pos := s, outermost := ob }
abbrev fG (pos : Nat) (ob : Bool) (count : Int) : Sre.Frame := { wait := .giveBack, pc := 11, pos := pos, outermost := ob, count := count }


theorem step_lit_end (t seen s ob) (h : t.size ≤ s) : ∃ seen', (stt t seen s 9 s s ob [fN s ob] 1 none none).step = stt t seen' s 9 s s ob [fN s ob] 1 (some false) none := by
  refine ⟨seen.add 16, ?_⟩
  show (if s ≥ t.size then _ else _) = _
  rw [if_pos (show s ≥ t.size from h)]
  rfl
theorem step_lit (t seen s ob) (h : s < t.size) : ∃ seen', (stt t seen s 9 s s ob [fN s ob] 1 none none).step = if t.getD s 0 = 46 then stt t seen' s 11 (s + 1) s ob [fN s ob] 1 none none else stt t seen' s 9 s s ob [fN s ob] 1 (some false) none := by
  refine ⟨seen.add 16, ?_⟩
  show (if s ≥ t.size then _ else _) = _
  rw [if_neg (show ¬ s ≥ t.size by omega)]
  have h1 : accepts hdnCode 9 (t.getD s 0) (seen.add 16) = .ok (t.getD s 0 == 46, seen.add 16) := rfl
  show (match accepts hdnCode 9 (t.getD s 0) (seen.add 16) with | .error why => _ | .ok (false, seen) => _ | .ok (true, seen) => _) = _
  rw [h1]
  by_cases h2 : t.getD s 0 = 46
  · rw [if_pos h2, show (t.getD s 0 == 46) = true by rw [h2]; rfl]; rfl
  · rw [if_neg h2, show (t.getD s 0 == 46) = false by simpa using h2]; rfl

theorem step_rep_no (t seen s p ob) (h : t.size < p + 1) : ∃ seen', (stt t seen s 11 p s ob [fN s ob] 1 none none).step = stt t seen' s 11 p s ob [fN s ob] 1 (some false) none := by
  refine ⟨seen.add 24, ?_⟩
  show (if ((1 : Nat) : Int) > ((t.size : Int) - (p : Int)) then _ else _) = _
  rw [if_pos (by omega)]
  rfl
theorem step_rep (t seen s p ob) (h : p + 1 ≤ t.size) (hz : t.size ≤ 4294967295) : ∃ seen', (stt t seen s 11 p s ob [fN s ob] 1 none none).step =
    if digRun t (t.size - p) p < 1 then stt t seen' s 11 p s ob [fN s ob] 1 (some false) none
    else stt t seen' s 21 (p + digRun t (t.size - p) p) (p + digRun t (t.size - p) p) ob [fG (p + digRun t (t.size - p) p) ob (digRun t (t.size - p) p), fN s ob] 2 none none := by
  obtain ⟨s1, h1⟩ := run_dig t (t.size - p) p 0 ((seen.add 24).add 13)
  refine ⟨s1, ?_⟩
  show (if ((1 : Nat) : Int) > ((t.size : Int) - (p : Int)) then _ else
    match Sre.run hdnCode t 15 (min 4294967295 ((t.size : Int) - (p : Int)).toNat) p 0 ((seen.add 24).add 13) with
    | .error why => _
    | .ok (n, seen) => if n < 1 then _ else _) = _
  rw [if_neg (by omega), show min 4294967295 ((t.size : Int) - (p : Int)).toNat = t.size - p by omega, h1, Nat.zero_add]
  show (if digRun t (t.size - p) p < 1 then _ else _) = _
  split
  · rfl
  · rfl
def atEnd (t : Array Nat) (p : Nat) : Bool := p == t.size || (p + 1 == t.size && t.getD p 0 == 10)
theorem step_at (t seen s p ob fr w) : ∃ seen', (stt t seen s 21 p p ob fr w none none).step = if atEnd t p then stt t seen' s 23 p p ob fr w none none else stt t seen' s 21 p p ob fr w (some false) none := by
  refine ⟨(seen.add 6).add 48, ?_⟩
  show (if atEnd t p then _ else _) = _
  split <;> rfl
theorem step_succ (t seen s p ob fr w) : ∃ seen', (stt t seen s 23 p p ob fr w none none).step = stt t seen' s 23 p p ob fr w (some true) none := by
  refine ⟨seen.add 1, ?_⟩
  show (if (ob && (false || false && _)) = true then _ else _) = _
  rw [if_neg (by simp)]
  rfl
theorem step_give_yes (t seen s pc p q ob c fr) : (stt t seen s pc p q ob (fG p ob c :: fr) 2 (some true) none).step = stt t seen s 11 p q ob fr 1 (some true) none := rfl
theorem step_give_no (t seen s pc p q ob fr) (c : Int) : (stt t seen s pc p q ob (fG p ob c :: fr) 2 (some false) none).step =
    if c - 1 < 1 then stt t seen s 11 p q ob fr 1 (some false) none else stt t seen s 21 (p - 1) (p - 1) ob (fG (p - 1) ob (c - 1) :: fr) 2 none none := by
  show (if c - 1 < ((1 : Nat) : Int) then _ else _) = _
  split <;> rename_i h
  · rw [if_pos (by omega)]; rfl
  · rw [if_neg (by omega)]; rfl
theorem step_next_yes (t seen s pc p q ob) : (stt t seen s pc p q ob [fN s ob] 1 (some true) none).step = stt t seen s 9 s q ob [] 0 (some true) none := rfl
theorem step_next_no (t seen s pc p q ob) : (stt t seen s pc p q ob [fN s ob] 1 (some false) none).step =
    if s < t.size then stt t seen (s + 1) 9 (s + 1) (s + 1) false [fN (s + 1) false] 1 none none else stt t seen s 9 s q ob [] 0 (some false) none := by
  show (if s < t.size then _ else _) = _
  split <;> rfl
theorem step_end (t seen s pc p q ob b) : (stt t seen s pc p q ob [] 0 (some b) none).step = stt t seen s pc p q ob [] 0 (some b) (some (if b then .matched else .failed)) := rfl

def Go (m m' : Sre.M) (n : Nat) : Prop := ∀ k, M.runFor (n + k) m = M.runFor k m'
theorem Go.refl (m : Sre.M) : Go m m 0 := fun k => by rw [Nat.zero_add]
theorem Go.trans {a b c : Sre.M} {m n : Nat} (h : Go a b m) (h' : Go b c n) : Go a c (m + n) := fun k => by rw [Nat.add_assoc, h, h']
theorem Go.one {m m' : Sre.M} (h : m.outcome.isSome = false) (e : m.step = m') : Go m m' 1 := fun k => by
  rw [Nat.add_comm 1 k]
  show (if m.outcome.isSome = true then m else M.runFor k m.step) = _
  rw [h, if_neg Bool.false_ne_true, e]
theorem Go.le {a b : Sre.M} {m : Nat} (h : Go a b m) (hb : b.outcome.isSome = true) (n : Nat) (hn : m ≤ n) : M.runFor n a = b := by
  obtain ⟨k, rfl⟩ : ∃ k, n = m + k := ⟨n - m, by omega⟩
  rw [h]
  cases k with
  | zero => rfl
  | succ k =>
    show (if b.outcome.isSome = true then b else M.runFor k b.step) = _
    rw [hb, if_pos rfl]

/-- the giving back: none of its places is the end -/
theorem go_back (t : Array Nat) (s p : Nat) (ob : Bool) (n : Nat) (hd : ∀ k, k < n → isDigit (t.getD (p + k) 0) = true) (hz : p + n ≤ t.size) :
    ∀ k, 1 ≤ k → k < n → ∀ seen, ∃ seen' q N, N ≤ 2 * k ∧ Go (stt t seen s 21 (p + k) (p + k) ob [fG (p + k) ob k, fN s ob] 2 none none) (stt t seen' s 11 (p + 1) q ob [fN s ob] 1 (some false) none) N
  | 0, h, _, _ => absurd h (by omega)
  | k + 1, _, hk, seen => by
    have hne : atEnd t (p + (k + 1)) = false := by
      unfold atEnd
      have h1 := hd (k + 1) hk
      unfold isDigit at h1
      simp only [Bool.and_eq_true, decide_eq_true_eq] at h1
      simp only [Bool.or_eq_false_iff, Bool.and_eq_false_iff, beq_eq_false_iff_ne]
      exact ⟨by omega, .inr (by omega)⟩
    obtain ⟨s1, h1⟩ := step_at t seen s (p + (k + 1)) ob [fG (p + (k + 1)) ob ((k + 1 : Nat) : Int), fN s ob] 2
    rw [hne, if_neg Bool.false_ne_true] at h1
    have g1 := Go.one rfl h1
    have h2 := step_give_no t s1 s 21 (p + (k + 1)) (p + (k + 1)) ob [fN s ob] ((k + 1 : Nat) : Int)
    cases k with
    | zero =>
      rw [if_pos (by omega)] at h2
      exact ⟨_, _, _, Nat.le_refl _, g1.trans (Go.one rfl h2)⟩
    | succ k =>
      rw [if_neg (by omega)] at h2
      have e1 : p + (k + 1 + 1) - 1 = p + (k + 1) := by omega
      have e2 : ((k + 1 + 1 : Nat) : Int) - 1 = ((k + 1 : Nat) : Int) := by omega
      rw [e1, e2] at h2
      obtain ⟨s2, q, N, hN, g3⟩ := go_back t s p ob n hd hz (k + 1) (by omega) (by omega) s1
      exact ⟨s2, q, _, by omega, (g1.trans (Go.one rfl h2)).trans g3⟩

/-- a start is a match: a dot, digits, the end -/
def matchAt (t : Array Nat) (s : Nat) : Bool := decide (s < t.size) && t.getD s 0 == 46 && decide (1 ≤ digRun t (t.size - (s + 1)) (s + 1)) && atEnd t (s + 1 + digRun t (t.size - (s + 1)) (s + 1))

theorem go_start (t : Array Nat) (hz : t.size ≤ 4294967295) (s : Nat) (hs : s ≤ t.size) (ob : Bool) (seen : Sre.Seen) : ∃ seen' pc p q N, N ≤ 2 * t.size + 8 ∧
    Go (stt t seen s 9 s s ob [fN s ob] 1 none none) (stt t seen' s pc p q ob [fN s ob] 1 (some (matchAt t s)) none) N := by
  by_cases h1 : s < t.size
  · obtain ⟨s1, e1⟩ := step_lit t seen s ob h1
    by_cases h2 : t.getD s 0 = 46
    · rw [if_pos h2] at e1
      have g1 := Go.one rfl e1
      by_cases h3 : s + 1 + 1 ≤ t.size
      · obtain ⟨s2, e2⟩ := step_rep t s1 s (s + 1) ob h3 hz
        by_cases h4 : digRun t (t.size - (s + 1)) (s + 1) < 1
        · rw [if_pos h4] at e2
          have hm : matchAt t s = false := by
            unfold matchAt
            rw [decide_eq_false (by omega : ¬ 1 ≤ digRun t (t.size - (s + 1)) (s + 1))]
            simp
          rw [hm]
          exact ⟨_, _, _, _, _, by omega, g1.trans (Go.one rfl e2)⟩
        · rw [if_neg h4] at e2
          have hle := digRun_le t (t.size - (s + 1)) (s + 1)
          have hdg := digRun_digit t (t.size - (s + 1)) (s + 1)
          have hM : matchAt t s = atEnd t (s + 1 + digRun t (t.size - (s + 1)) (s + 1)) := by
            unfold matchAt
            rw [decide_eq_true h1, h2, decide_eq_true (by omega : 1 ≤ digRun t (t.size - (s + 1)) (s + 1))]
            rfl
          generalize hn : digRun t (t.size - (s + 1)) (s + 1) = n at *
          have g2 := g1.trans (Go.one rfl e2)
          obtain ⟨s3, e3⟩ := step_at t s2 s (s + 1 + n) ob [fG (s + 1 + n) ob n, fN s ob] 2
          rw [hM]
          cases h5 : atEnd t (s + 1 + n) with
          | true =>
            rw [h5, if_pos rfl] at e3
            obtain ⟨s4, e4⟩ := step_succ t s3 s (s + 1 + n) ob [fG (s + 1 + n) ob n, fN s ob] 2
            have e5 := step_give_yes t s4 s 23 (s + 1 + n) (s + 1 + n) ob n [fN s ob]
            exact ⟨_, _, _, _, _, by omega, ((g2.trans (Go.one rfl e3)).trans (Go.one rfl e4)).trans (Go.one rfl e5)⟩
          | false =>
            rw [h5, if_neg Bool.false_ne_true] at e3
            have g3 := g2.trans (Go.one rfl e3)
            have e4 := step_give_no t s3 s 21 (s + 1 + n) (s + 1 + n) ob [fN s ob] (n : Int)
            by_cases h6 : n = 1
            · subst h6
              rw [if_pos (by omega)] at e4
              exact ⟨_, _, _, _, _, by omega, g3.trans (Go.one rfl e4)⟩
            · rw [if_neg (by omega)] at e4
              obtain ⟨k, rfl⟩ : ∃ k, n = k + 1 := ⟨n - 1, by omega⟩
              rw [show s + 1 + (k + 1) - 1 = s + 1 + k by omega, show ((k + 1 : Nat) : Int) - 1 = (k : Int) by omega] at e4
              obtain ⟨s5, q, N, hN, g5⟩ := go_back t s (s + 1) ob (k + 1) hdg (by omega) k (by omega) (by omega) s3
              exact ⟨_, _, _, _, _, by omega, (g3.trans (Go.one rfl e4)).trans g5⟩
      · obtain ⟨s2, e2⟩ := step_rep_no t s1 s (s + 1) ob (by omega)
        have hm : matchAt t s = false := by
          unfold matchAt
          rw [show t.size - (s + 1) = 0 by omega]
          simp [digRun]
        rw [hm]
        exact ⟨_, _, _, _, _, by omega, g1.trans (Go.one rfl e2)⟩
    · rw [if_neg h2] at e1
      have hm : matchAt t s = false := by
        unfold matchAt
        rw [show (t.getD s 0 == 46) = false by simpa using h2]
        simp
      rw [hm]
      exact ⟨_, _, _, _, _, by omega, Go.one rfl e1⟩
  · obtain ⟨s1, e1⟩ := step_lit_end t seen s ob (by omega)
    have hm : matchAt t s = false := by
      unfold matchAt
      rw [decide_eq_false h1]
      simp
    rw [hm]
    exact ⟨_, _, _, _, _, by omega, Go.one rfl e1⟩

/-- some start from s on, k more of them, is a match -/
def anyFrom (t : Array Nat) : Nat → Nat → Bool
  | 0, _ => false
  | k + 1, s => matchAt t s || anyFrom t k (s + 1)

theorem go_all (t : Array Nat) (hz : t.size ≤ 4294967295) : ∀ k s, s + k = t.size + 1 → 1 ≤ k → ∀ ob seen, ∃ m N, N ≤ k * (2 * t.size + 10) ∧ m.outcome = some (if anyFrom t k s then Sre.Outcome.matched else Sre.Outcome.failed) ∧ m.marks = #[] ∧ Go (stt t seen s 9 s s ob [fN s ob] 1 none none) m N
  | 0, _, _, h, _, _ => absurd h (by omega)
  | k + 1, s, hs, _, ob, seen => by
    obtain ⟨s1, pc, p, q, N, hN, g⟩ := go_start t hz s (by omega) ob seen
    have hk : (k + 1) * (2 * t.size + 10) = k * (2 * t.size + 10) + (2 * t.size + 10) := Nat.succ_mul _ _
    cases hm : matchAt t s with
    | true =>
      rw [hm] at g
      have e1 := step_next_yes t s1 s pc p q ob
      have e2 := step_end t s1 s 9 s q ob true
      refine ⟨_, _, ?_, ?_, ?_, (g.trans (Go.one rfl e1)).trans (Go.one rfl e2)⟩
      · omega
      · show _ = some (if (matchAt t s || anyFrom t k (s + 1)) = true then _ else _)
        rw [hm]; rfl
      · rfl
    | false =>
      rw [hm] at g
      have e1 := step_next_no t s1 s pc p q ob
      have ha : anyFrom t (k + 1) s = anyFrom t k (s + 1) := by
        show (matchAt t s || anyFrom t k (s + 1)) = _
        rw [hm]; rfl
      rw [ha]
      by_cases hl : s < t.size
      · rw [if_pos hl] at e1
        obtain ⟨m, N2, hN2, ho, hmk, g2⟩ := go_all t hz k (s + 1) (by omega) (by omega) false s1
        exact ⟨m, _, by omega, ho, hmk, (g.trans (Go.one rfl e1)).trans g2⟩
      · rw [if_neg hl] at e1
        have e2 := step_end t s1 s 9 s q ob false
        have h0 : k = 0 := by omega
        subst h0
        exact ⟨_, _, by omega, rfl, rfl, (g.trans (Go.one rfl e1)).trans (Go.one rfl e2)⟩

/-- the text ends with a dot and digits (and perhaps a new line) -/
def ipv4 (t : Array Nat) : Bool := anyFrom t (t.size + 1) 0

theorem go_search (t : Array Nat) (hz : t.size ≤ 1048576) : ∃ m N, N ≤ 2 ^ 42 ∧ m.outcome = some (if ipv4 t then Sre.Outcome.matched else Sre.Outcome.failed) ∧ m.marks = #[] ∧ Go (Sre.forSearch hdnCode t 0 0 t.size false) m N := by
  by_cases h : t.size < 2
  · have e : Sre.forSearch hdnCode t 0 0 t.size false = { stt t (({} : Sre.Seen).add 14) 0 9 0 0 true [] 0 (some false) none with lastStart := 0 } := by
      unfold Sre.forSearch
      show (if (0 > t.size || t.size - 0 < 2) = true then _ else _) = _
      rw [if_pos (by simp; omega)]
      rfl
    have hi : ipv4 t = false := by
      unfold ipv4
      have : t.size = 0 ∨ t.size = 1 := by omega
      rcases this with h0 | h0 <;> rw [h0] <;> simp [anyFrom, matchAt, h0, digRun]
    rw [e, hi]
    exact ⟨_, 1, by decide, rfl, rfl, Go.one rfl rfl⟩
  · have e : Sre.forSearch hdnCode t 0 0 t.size false = stt t (({} : Sre.Seen).add 14) 0 9 0 0 true [fN 0 true] 1 none none := by
      unfold Sre.forSearch
      show (if (0 > t.size || t.size - 0 < 2) = true then _ else _) = _
      rw [if_neg (by simp; omega)]
      rfl
    rw [e]
    obtain ⟨m, N, hN, ho, hm, g⟩ := go_all t (by omega) (t.size + 1) 0 (by omega) (by omega) true (({} : Sre.Seen).add 14)
    refine ⟨m, N, Nat.le_trans hN ?_, ho, hm, g⟩
    have : (t.size + 1) * (2 * t.size + 10) ≤ 1048577 * (2 * 1048576 + 10) := Nat.mul_le_mul (by omega) (by omega)
    omega
end Mine
end
section
open PySem PySem.W PyProof.Rows
namespace Mine
set_option maxRecDepth 100000
set_option maxHeartbeats 2000000
open PySem.Builtin.Re PySem.Builtin

theorem plainAttrs_pat : PlainAttrs "re.Pattern" :=
  ⟨⟨"object.__getattribute__", by rw [typeLookup_type, builtinLookup_eq_fast]; kernel_rfl, by decide +kernel⟩, by rw [typeLookup_type, builtinLookup_eq_fast]; kernel_rfl⟩
theorem slot_search : Slot "re.Pattern" "search" "re.Pattern.search" :=
  .of (owner := "re.Pattern") (n := "search") (by rw [typeLookup_type, builtinLookup_eq_fast]; kernel_rfl) (by decide +kernel) (by decide +kernel) (by decide +kernel)
    (by first | exact .inl (by decide +kernel) | exact .inr (by decide +kernel)) (by rw [isSubtype_type]; kernel_rfl)
theorem type_search : typeOf (.builtin "re.Pattern.search") = pure (.type "method_descriptor") := by show builtinType _ = _; rw [builtinType_eq_fast]; kernel_rfl
theorem entry_search : entryFor table "re.Pattern.search" = some Builtin.«re.Pattern.search» := entryFor_of_tree (by kernel_rfl)
theorem owner_pat : Manifest.owners.lookup (String.ofList ['n','r','e','t','t','a','P','.','e','r'].reverse) = some Manifest.sig_re_Pattern := by kernel_rfl
theorem args_search_2 (a b : Value) : argsOk "re.Pattern.search" ⟨[a, b], []⟩ := by
  unfold argsOk
  first
  | (rw [signature?_of (id := "re.Pattern.search") (n := ['h','c','r','a','e','s']) (o := ['n','r','e','t','t','a','P','.','e','r']) (by kernel_rfl) owner_pat]; kernel_rfl)
  | trivial

theorem named_search (s : Value) : reNamed "re.Pattern.search" "search" ["string", "pos", "endpos"] 1 [s] [] = pure [some s, none, none] := by
  first | rfl | kernel_rfl
theorem method_search {prog : Program} {w : World} {A : Around} {E : Value → Shared → Prop} {s : Shared} {a : Addr} {vs : Array Value} {pl : Sem Bool} {Q : Value × List Value → Shared → Prop}
    (h0 : s.heap.get? a = some ⟨.type "re.Pattern", none, .fields vs, #[]⟩) (h : Q (.builtin "re.Pattern.search", [.ref a]) s) : wpAny (model prog w) A (getMethod (.ref a) "search" pl) Q E s :=
  getMethod_builtin ⟨_, h0, rfl⟩ plainAttrs_pat slot_search type_search (fun b e => by cases e; exact ⟨_, h0, rfl⟩) h
end Mine
end
section
open PySem PySem.W PyProof.Rows
namespace Mine
set_option maxRecDepth 100000
set_option maxHeartbeats 2000000
open PySem.Builtin.Re PySem.Builtin

theorem runFor_add : ∀ (a b : Nat) (m : Sre.M), Sre.M.runFor (a + b) m = Sre.M.runFor b (Sre.M.runFor a m)
  | 0, b, m => by rw [Nat.zero_add]; rfl
  | a + 1, b, m => by
    rw [show a + 1 + b = (a + b) + 1 by omega]
    show (if m.outcome.isSome = true then m else Sre.M.runFor (a + b) m.step) = Sre.M.runFor b (if m.outcome.isSome = true then m else Sre.M.runFor a m.step)
    split
    · rename_i h
      cases b with
      | zero => rfl
      | succ b =>
        show m = (if m.outcome.isSome = true then m else Sre.M.runFor b m.step)
        rw [if_pos h]
    · exact runFor_add a b m.step

section
variable {M : Model} {A : Around} {E : Value → Shared → Prop} {s : Shared}
theorem wp_drive : ∀ (turns : Nat) (m mf : Sre.M) (N : Nat) {Q : Sre.M → Shared → Prop}, Go m mf N → mf.outcome.isSome = true → N ≤ 4 * turns → 0 < turns → Q mf s → wpAny M A (reDrive turns m) Q E s
  | 0, _, _, _, _, _, _, _, h, _ => absurd h (by omega)
  | turns + 1, m, mf, N, Q, g, ho, hN, _, hq => by
    unfold reDrive
    show wpAny M A (if (Sre.M.runFor 4 m).outcome.isSome = true then pure (Sre.M.runFor 4 m) else (do rule "sre.turn"; reDrive turns (Sre.M.runFor 4 m))) Q E s
    by_cases h4 : N ≤ 4
    · rw [g.le ho 4 h4, if_pos ho]
      exact wpAny_pure hq
    · have g2 : Go (Sre.M.runFor 4 m) mf (N - 4) := fun k => by
        rw [← runFor_add, show 4 + (N - 4 + k) = N + k by omega]
        exact g k
      split
      · rename_i h1
        have e : Sre.M.runFor 4 m = mf := by
          have := g2.le ho (N - 4) (Nat.le_refl _)
          have e2 : Sre.M.runFor (N - 4) (Sre.M.runFor 4 m) = Sre.M.runFor 4 m := by
            obtain ⟨k, hk⟩ : ∃ k, N - 4 = k + 1 := ⟨N - 5, by omega⟩
            rw [hk]
            show (if (Sre.M.runFor 4 m).outcome.isSome = true then Sre.M.runFor 4 m else _) = _
            rw [if_pos h1]
          rw [← e2, this]
        rw [e]
        exact wpAny_pure hq
      · exact wpAny_bind (wpAny_rule (wp_drive turns _ mf (N - 4) g2 ho (by omega) (by omega) hq))

theorem wp_tags (P : Nat → Bool) (n : Nat → String) : ∀ (l : List Nat) {Q : PUnit → Shared → Prop}, Q ⟨⟩ s → wpAny M A (forIn l PUnit.unit fun i _ => (if P i then (do rule (n i); pure (ForInStep.yield PUnit.unit)) else pure (ForInStep.yield PUnit.unit) : Sem (ForInStep PUnit))) Q E s
  | [], _, h => by rw [List.forIn_nil]; exact wpAny_pure h
  | i :: l, Q, h => by
    rw [List.forIn_cons]
    refine wpAny_bind ?_
    have k : wpAny M A (forIn l PUnit.unit fun i _ => (if P i then (do rule (n i); pure (ForInStep.yield PUnit.unit)) else pure (ForInStep.yield PUnit.unit) : Sem (ForInStep PUnit))) Q E s := wp_tags P n l h
    split
    · exact wpAny_bind (wpAny_rule (wpAny_pure k))
    · exact wpAny_pure k

theorem wp_runToEnd {m mf : Sre.M} {N : Nat} {b : Bool} {Q : Option Sre.M → Shared → Prop} (g : Go m mf N) (ho : mf.outcome = some (if b then .matched else .failed)) (hN : N ≤ 2 ^ 42)
    (hq : Q (if b then some mf else none) s) : wpAny M A (reRunToEnd m) Q E s := by
  unfold reRunToEnd
  have key : ∀ T : Nat, 2 ^ 42 ≤ T → wpAny M A (reDrive T m) (fun x s' => x = mf ∧ s' = s) E s := fun T hT =>
    wp_drive T m mf N g (by rw [ho]; rfl) (by omega) (Nat.lt_of_lt_of_le (by decide) hT) ⟨rfl, rfl⟩
  refine wpAny_bind (wpAny_mono (key (2 ^ 64) (by decide)) (fun x s' hx => ?_) fun _ _ e => e)
  obtain ⟨rfl, rfl⟩ := hx
  refine wpAny_bind (wp_tags (fun i => x.seen.has i) (fun i => Sre.names.getD i "") (List.range Sre.names.size) ?_)
  rw [ho]
  cases b with
  | true => exact wpAny_pure hq
  | false => exact wpAny_pure hq
end
end Mine
end
section
open PySem PySem.W PyProof.Rows
namespace Mine
set_option maxRecDepth 100000
set_option maxHeartbeats 2000000
open PySem.Builtin.Re PySem.Builtin

abbrev patFields : Array Value := #[Value.str (Str.ofString "\\.\\d+$") 285, Value.int 256 312, Value.int 0 0, Value.none, Value.none, Value.ref 35, Value.int 0 0]
abbrev patCode : Array Value := #[Value.int 14 0, Value.int 8 0, Value.int 1 0, Value.int 2 0, Value.int 4294967295 0, Value.int 1 0,
        Value.int 1 0, Value.int 46 0, Value.int 0 0, Value.int 16 0, Value.int 46 0, Value.int 24 0, Value.int 9 0,
        Value.int 1 0, Value.int 4294967295 0, Value.int 13 0, Value.int 4 0, Value.int 8 0, Value.int 0 0,
        Value.int 0 0, Value.int 1 0, Value.int 6 0, Value.int 5 0, Value.int 1 0]
theorem look36 (P : Params) : (hd.heap_39 P).lookup 36 = some { cls := .type "re.Pattern", data := .fields patFields } := rfl
theorem look35 (P : Params) : (hd.heap_39 P).lookup 35 = some { cls := .type "tuple", data := .seq patCode } := rfl

section
variable {prog : Program} {w : World} {A : Around} {E : Value → Shared → Prop} {s : Shared}
abbrev tgt (t : Str) (tk : Tok) : ReTarget := { pattern := .ref 36, string := .str t tk, code := hdnCode, text := t.cps, kind := 0, groups := 0, pos := 0, lim := t.cps.size }

theorem wp_target {M : Model} {t : Str} {tk : Tok} {Q : ReTarget → Shared → Prop} (h1 : s.heap.get? 36 = some { cls := .type "re.Pattern", data := .fields patFields }) (h2 : s.heap.get? 35 = some { cls := .type "tuple", data := .seq patCode })
    (hz : t.cps.size ≤ 1048576) (h : Q (tgt t tk) s) : wpAny M A (reTarget "re.Pattern.search" "search" ⟨[.ref 36, .str t tk], []⟩) Q E s := by
  unfold reTarget
  refine wpAny_bind (wpAny_of_eq (named_search _) ?_)
  refine wpAny_bind (wpAny_pure ?_)
  refine wpAny_bind (wpAny_pure ?_)
  refine wpAny_bind (wpAny_fieldsOf h1 rfl ?_)
  refine wpAny_bind (show wpAny M A (reTextOf (.str t tk)) _ E s from wpAny_bind (wpAny_pure (wpAny_pure ?_)))
  show wpAny M A (if (reRawNat (.int 0 0) == 0 && (0 : Nat) == 1) = true then _ else (if (reRawNat (.int 0 0) == 1 && (0 : Nat) == 0) = true then _ else _)) Q E s
  rw [if_neg (by decide), if_neg (by decide)]
  refine wpAny_bind (wpAny_pure ?_)
  refine wpAny_bind (show wpAny M A (reRawItems (.ref 35)) _ E s from wpAny_bind (wpAny_seqItems h2 rfl (wpAny_pure ?_)))
  refine wpAny_pure ?_
  have e : (({ pattern := Value.ref 36, string := Value.str t tk, code := Array.map (fun x => x.toNat) (Array.map reRawOf ((some patCode).getD #[])), text := t.cps, kind := 0, groups := reRawNat (patFields.getD 2 Value.none), pos := min (0 : Int).toNat t.cps.size, lim := min ((2 : Int) ^ 63 - 1).toNat t.cps.size } : ReTarget)) = tgt t tk := by
    have e1 : min (0 : Int).toNat t.cps.size = 0 := by simp
    have e2 : min ((2 : Int) ^ 63 - 1).toNat t.cps.size = t.cps.size := by
      have : ((2 : Int) ^ 63 - 1).toNat = 9223372036854775807 := by decide
      omega
    rw [e1, e2, show Array.map (fun x => x.toNat) (Array.map reRawOf ((some patCode).getD #[])) = hdnCode by decide +kernel]
    rfl
  exact e ▸ h

theorem wp_search {m : Str → Option Value} {h₀ : Heap} {L : Addr} {news : List (Addr × Obj)} {t : Str} {tk : Tok} {Q : Value → Shared → Prop} (F : Fr h₀ L s.heap m) (X₀ : (hd.heap_39 w.params).In h₀) (N : News h₀ L s.heap news)
    (hz : t.cps.size ≤ 1048576) (hno : ipv4 t.cps = false → Q .none s)
    (hyes : ∀ a o h', ipv4 t.cps = true → Fr h₀ L h' m → News h₀ L h' ((a, o) :: news) → o.cls = .type "re.Match" → Q (.ref a) { s with heap := h' }) :
    wpAny (model prog w) A (call (.builtin "re.Pattern.search") [.ref 36, .str t tk]) Q E s := by
  have X := X₀.keeps F.keep
  have h1 := X _ _ (look36 w.params)
  have h2 := X _ _ (look35 w.params)
  refine wpAny_call (codeAny_call_builtin slot_search.plain entry_search (slot_search.check _ _ _ _ _ _ _ _ ⟨_, h1, rfl⟩ (args_search_2 _ _) ?_))
  unfold Builtin.«re.Pattern.search»
  refine wpAny_bind (wp_target h1 h2 hz ?_)
  obtain ⟨mf, n, hn, ho, hm, g⟩ := go_search t.cps hz
  unfold reAnswer
  refine wpAny_bind (wp_runToEnd g ho hn ?_)
  cases hb : ipv4 t.cps with
  | false => exact wpAny_pure (hno hb)
  | true =>
    show wpAny _ _ (do ret (← reNewMatch (.ref 36) (.str t tk) 0 0 t.cps.size mf)) _ _ _
    refine wpAny_bind (show wpAny _ _ (reNewMatch (.ref 36) (.str t tk) 0 0 t.cps.size mf) _ _ _ from ?_)
    unfold reNewMatch
    show wpAny _ _ (do newFields "re.Match" [.str t tk, .ref 36, rawInt 0, rawInt t.cps.size, rawInt mf.lastindex, ← newTuple [rawInt mf.start, rawInt mf.handed]]) _ _ _
    refine wpAny_bind (newTuple_N F N ?_)
    intro h' F' N'
    refine wpAny_newObj_type ?_ ?_
    · have NN := News.push F' N' ({ cls := .type "re.Match", data := .fields [Value.str t tk, Value.ref 36, rawInt 0, rawInt t.cps.size, rawInt mf.lastindex, Value.ref s.heap.objs.size].toArray } : Obj)
      refine wpAny_pure (hyes _ ({ cls := .type "re.Match", data := .fields [Value.str t tk, Value.ref 36, rawInt 0, rawInt t.cps.size, rawInt mf.lastindex, Value.ref s.heap.objs.size].toArray } : Obj) _ hb (F'.push _) (fun p hp => NN p ?_) rfl)
      rcases List.mem_cons.mp hp with e | e
      · exact e ▸ List.Mem.head _
      · exact .tail _ (.tail _ e)
    · show (6 : Nat) ≤ sizeLine + 2
      decide

theorem noBool_match : typeLookup (.type "re.Match") "__bool__" = pure none := by rw [typeLookup_type, builtinLookup_eq_fast]; kernel_rfl
theorem noLen_match : typeLookup (.type "re.Match") "__len__" = pure none := by rw [typeLookup_type, builtinLookup_eq_fast]; kernel_rfl
theorem wp_truthy_match {a : Addr} {o : Obj} {Q : Bool → Shared → Prop} (h0 : s.heap.get? a = some o) (hc : o.cls = .type "re.Match") (h : Q true s) : wpAny (model prog w) A (truthy (.ref a)) Q E s := by
  have hT : s.TypeIs (.ref a) "re.Match" := ⟨_, h0, hc⟩
  unfold truthy
  refine wpAny_bind (wpAny_callSpecial?_none (name := Str.ofString "__bool__") hT noBool_match ?_)
  refine wpAny_bind (wpAny_specialOf (name := Str.ofString "__len__") hT noLen_match ?_)
  exact wpAny_pure h
end
end Mine
end
section
open PySem PySem.W PyProof.Rows
namespace Mine
set_option maxRecDepth 100000
set_option maxHeartbeats 8000000
def isHDN (t : Str) : Bool := if ipv4 t.cps then false else if t == Str.ofString "" then false else if Txt.item t 0 == Str.ofString "." then false else if Txt.item t (-1) == Str.ofString "." then false else true

local macro_rules | `(tactic| walk_at "getMethod ref") => `(tactic| (k_here; k_dflt (refine' method_search ?k1 ?_; (case k1 => exact (Frag.In.keeps (by k_asm) (Fr.keep (by k_asm))) _ _ (look36 _)))))
local macro_rules | `(tactic| walk_at "call builtin:re.Pattern.search") => `(tactic| (k_here; k_dflt (refine' wp_search ?k1 ?k2 ?k3 ?k4 ?kn ?ky; (case k1 => k_asm); (case k2 => k_asm); (case k3 => k_asm); (case k4 => first | assumption | omega); (case' kn => (intro hno; (try dsimp only))); (case' ky => (intro am om hm hyes F' N' hc'; (try dsimp only))))))
local macro_rules | `(tactic| walk_at "truthy ref") => `(tactic| (k_here; k_dflt (refine' wp_truthy_match ?k1 ?k2 ?_; (case k1 => exact ((by k_asm : News _ _ _ _) _ (by k_mem)).1); (case k2 => assumption))))

theorem hdn_C (w : World) (mean : ExcName → Option Value) (mg mb : Str → Option Value) (news : List (Addr × Obj)) (t : Str) (tk : Tok) :
   CbClaim PySem.Challenge.rw_zo0021_01.row.prog w (hd.heap_39 w.params) hd.view_39 lawL mean mg mb 43 news [] (t.cps.size ≤ 1000) [.str t tk] (fun _ => .bool (isHDN t)) := by
  w_top off
  k_fill
  dsimp only [CbClaim, CbLists, CbRet]; intros; rename_i hret
  have hz : t.cps.size ≤ 1048576 := by omega
  refine wpAny_call ?_
  (first | k_dflt cell_enter | ktn_no "k_call_by: the def is not entered")
  k_steps
  all_goals (refine cb_retB (Q := _) hret ?e1 ?e2 ?e3; (case e2 => k_asm); (case e3 => first | k_asm | (refine' cb_drop ?cbN ?cbS; (case cbN => assumption); (case cbS => kcj_all))); (case e1 => unfold isHDN; simp only [*, if_true, if_false, Bool.false_eq_true]))
end Mine
end
section
open PySem PySem.W PyProof.Rows
namespace Mine
set_option maxRecDepth 100000
set_option maxHeartbeats 8000000

theorem use0 {prog : Program} {w : World} {K : Frag} {p : Program} {loose : List Str} {mean : ExcName → Option Value} {mg mb : Str → Option Value} {f : Addr} {news : List (Addr × Obj)} {pre : Prop} {vs : List Value} {R : Tok → Value}
   (C : CbClaim prog w K p loose mean mg mb f news [] pre vs R)
   {dp un : Nat} {gd : Option (List Code)} {cn : Str} {cs : Scope} {a : Addr} {ccd : Value} {cl : List (Str × Addr)} {outer : List Env} {A₀ : Around} {base h₀ : Heap} {L : Addr} {m : Str → Option Value} {s : Shared} {Q E : Value → Shared → Prop}
   (B : Below A₀ base outer h₀) (F : Fr h₀ L s.heap m) (X : K.In h₀) (N : News h₀ L s.heap news) (T : Top p loose mean mg mb h₀) (hk : cs.kind = .function) (hp : pre) (hd : dp + 1 < recursionLimit) (hu : un + 8 < cLine)
   (ret : ∀ (t : Tok) (h' : Heap) (tk' : Nat), Fr h₀ L h' m → News h₀ L h' news → Q (R t) { s with heap := h', toks := tk' }) :
      wpAny (model prog w) (ktrTop dp un gd cn cs L a ccd cl outer) (call (.ref f) vs) Q E s :=
  C _ _ _ _ _ _ _ _ _ _ _ _ _ _ _ _ _ B F X N T hk hp hd hu ret
end Mine
end
section
open PySem PySem.W PyProof.Rows
namespace Mine
set_option maxRecDepth 100000
set_option maxHeartbeats 8000000

abbrev Cl0 (w : World) (mean : ExcName → Option Value) (mg mb : Str → Option Value) (f : Addr) (news : List (Addr × Obj)) (pre : Prop) (vs : List Value) (R : Tok → Value) : Prop :=
  ∀ (dp un : Nat) (gd : Option (List Code)) (cn : Str) (cs : Scope) (a : Addr) (ccd : Value) (cl : List (Str × Addr)) (outer : List Env) (A₀ : Around) (base h₀ : Heap) (L : Addr) (m : Str → Option Value) (s : Shared) (Q E : Value → Shared → Prop),
    Below A₀ base outer h₀ → Fr h₀ L s.heap m → (hd.heap_39 w.params).In h₀ → News h₀ L s.heap news → Top hd.view_39 lawL mean mg mb h₀ → cs.kind = .function →
    pre → dp + 10 < recursionLimit → un + 80 < cLine → CbRet h₀ L m news s Q R →
      wpAny (model PySem.Challenge.rw_zo0021_01.row.prog w) (ktrTop dp un gd cn cs L a ccd cl outer) (call (.ref f) vs) Q E s

theorem use1 {w : World} {mean : ExcName → Option Value} {mg mb : Str → Option Value} {f : Addr} {news : List (Addr × Obj)} {pre : Prop} {vs : List Value} {R : Tok → Value}
   (C : Cl0 w mean mg mb f news pre vs R)
   {dp un : Nat} {gd : Option (List Code)} {cn : Str} {cs : Scope} {a : Addr} {ccd : Value} {cl : List (Str × Addr)} {outer : List Env} {A₀ : Around} {base h₀ : Heap} {L : Addr} {m : Str → Option Value} {s : Shared} {Q E : Value → Shared → Prop}
   (B : Below A₀ base outer h₀) (F : Fr h₀ L s.heap m) (X : (hd.heap_39 w.params).In h₀) (N : News h₀ L s.heap news) (T : Top hd.view_39 lawL mean mg mb h₀) (hk : cs.kind = .function) (hp : pre) (hd : dp + 10 < recursionLimit) (hu : un + 80 < cLine)
   (ret : ∀ (t : Tok) (h' : Heap) (tk' : Nat), Fr h₀ L h' m → News h₀ L h' news → Q (R t) { s with heap := h', toks := tk' }) :
      wpAny (model PySem.Challenge.rw_zo0021_01.row.prog w) (ktrTop dp un gd cn cs L a ccd cl outer) (call (.ref f) vs) Q E s :=
  C _ _ _ _ _ _ _ _ _ _ _ _ _ _ _ _ _ B F X N T hk hp hd hu ret

abbrev tupO (vs : List Value) : Obj := { cls := .type "tuple", data := .seq vs.toArray }

/-- a call that gives back a new tuple -/
abbrev ClT (w : World) (mean : ExcName → Option Value) (mg mb : Str → Option Value) (f : Addr) (news : List (Addr × Obj)) (pre : Prop) (vs : List Value) (R : Tok → Tok → Tok → List Value) : Prop :=
  ∀ (dp un : Nat) (gd : Option (List Code)) (cn : Str) (cs : Scope) (a : Addr) (ccd : Value) (cl : List (Str × Addr)) (outer : List Env) (A₀ : Around) (base h₀ : Heap) (L : Addr) (m : Str → Option Value) (s : Shared) (Q E : Value → Shared → Prop),
    Below A₀ base outer h₀ → Fr h₀ L s.heap m → (hd.heap_39 w.params).In h₀ → News h₀ L s.heap news → Top hd.view_39 lawL mean mg mb h₀ → cs.kind = .function →
    pre → dp + 10 < recursionLimit → un + 80 < cLine →
    (∀ (a : Addr) (t1 t2 t3 : Tok) (h' : Heap) (tk' : Nat), Fr h₀ L h' m → News h₀ L h' ((a, tupO (R t1 t2 t3)) :: news) → (∀ p ∈ news, p.1 < a) → Q (.ref a) { s with heap := h', toks := tk' }) →
      wpAny (model PySem.Challenge.rw_zo0021_01.row.prog w) (ktrTop dp un gd cn cs L a ccd cl outer) (call (.ref f) vs) Q E s

theorem useT {w : World} {mean : ExcName → Option Value} {mg mb : Str → Option Value} {f : Addr} {news : List (Addr × Obj)} {pre : Prop} {vs : List Value} {R : Tok → Tok → Tok → List Value}
   (C : ClT w mean mg mb f news pre vs R)
   {dp un : Nat} {gd : Option (List Code)} {cn : Str} {cs : Scope} {a : Addr} {ccd : Value} {cl : List (Str × Addr)} {outer : List Env} {A₀ : Around} {base h₀ : Heap} {L : Addr} {m : Str → Option Value} {s : Shared} {Q E : Value → Shared → Prop}
   (B : Below A₀ base outer h₀) (F : Fr h₀ L s.heap m) (X : (hd.heap_39 w.params).In h₀) (N : News h₀ L s.heap news) (T : Top hd.view_39 lawL mean mg mb h₀) (hk : cs.kind = .function) (hp : pre) (hd : dp + 10 < recursionLimit) (hu : un + 80 < cLine)
   (ret : ∀ (a : Addr) (t1 t2 t3 : Tok) (h' : Heap) (tk' : Nat), Fr h₀ L h' m → News h₀ L h' ((a, tupO (R t1 t2 t3)) :: news) → (∀ p ∈ news, p.1 < a) → Q (.ref a) { s with heap := h', toks := tk' }) :
      wpAny (model PySem.Challenge.rw_zo0021_01.row.prog w) (ktrTop dp un gd cn cs L a ccd cl outer) (call (.ref f) vs) Q E s :=
  C _ _ _ _ _ _ _ _ _ _ _ _ _ _ _ _ _ B F X N T hk hp hd hu ret
end Mine
end
section
open PySem PySem.W PyProof.Rows
namespace Mine
local macro_rules | `(tactic| walk_at "zz 0") => `(tactic| skip)
set_option maxRecDepth 100000
set_option maxHeartbeats 8000000

local macro_rules | `(tactic| walk_at "call ref") => `(tactic| (k_here; (refine' use0 (hdn_C _ _ _ _ _ _ _) ?k1 ?k2 ?k3 ?k4 ?k5 ?kK ?kp ?kd ?ku ?_; (case k1 => k_asm); (case k2 => k_asm); (case k3 => k_asm); (case k4 => k_asm); (case k5 => k_asm); (case kK => first | exact rfl | assumption); (case kp => simp only [Str.length] at *; omega); (case kd => ktr_room); (case ku => ktr_units); intro t9 h9 tk9 F9 N9; (try dsimp only); (try k_fold))))

theorem len_fit {x y : Str} (h : x.length ≤ 3 * y.length) (h2 : y.cps.size ≤ 100) : x.cps.size ≤ 1048576 := by simp only [Str.length] at *; omega
theorem len_dot : (Str.ofString ".").length = 1 := by decide +kernel
local macro_rules | `(tactic| walk_at "binaryOp Add str str") => `(tactic| (k_here; (refine add_str ?_ ?sz; (case sz => rw [sizeLine_eq]; have hd9 := len_dot; simp only [Str.length] at *; omega)); intro _ _; (try dsimp only)))
local macro_rules | `(tactic| walk_at "call builtin:str.lower") => `(tactic| (k_here; (refine SCL.lower ?sz ?_; (case sz => simp only [Str.length] at *; omega)); intro hl9; (have hl8 := len_fit hl9 (by assumption)); (try dsimp only)))

def reachF (h : Str) : Str :=
  if 0 ≤ Txt.find h (Str.ofString ".") then
    if isHDN h = true ∧ (0 ≤ Txt.find (Txt.slice h (some (Txt.find h (Str.ofString ".") + 1)) none) (Str.ofString ".") ∨ Txt.slice h (some (Txt.find h (Str.ofString ".") + 1)) none = Str.ofString "local") then
      Str.ofString "." ++ Txt.slice h (some (Txt.find h (Str.ofString ".") + 1)) none else h
  else h

theorem reach_C (w : World) (mean : ExcName → Option Value) (mg mb : Str → Option Value) (news : List (Addr × Obj)) (t : Str) (tk : Tok) :
   Cl0 w mean mg mb 57 news (t.cps.size ≤ 100) [.str t tk] (fun t' => .str (reachF t) t') := by
  w_top off
  dsimp only [Cl0, CbRet]; k_fill
  intros; rename_i hret
  have hz : t.cps.size ≤ 1048576 := by omega
  refine wpAny_call ?_
  (first | k_dflt cell_enter | ktn_no "k_call_by: the def is not entered")
  k_steps
  all_goals (refine cb_retS (Q := _) hret ?e1 ?e2 ?e3; (case e2 => k_asm); (case e3 => k_asm); (case e1 => (simp only [beq_iff_eq, beq_eq_false_iff_ne] at *; simp [reachF, *])))

def dmF (A B : Str) : Bool :=
  if Txt.lower A = Txt.lower B then true
  else if isHDN (Txt.lower A) = true then
    if Txt.rfind (Txt.lower A) (Txt.lower B) = -1 ∨ Txt.rfind (Txt.lower A) (Txt.lower B) = 0 then false
    else if Txt.startswith (Txt.lower B) (Str.ofString ".") = true then isHDN (Txt.slice (Txt.lower B) (some 1) none)
    else false
  else false

theorem dm_C (w : World) (mean : ExcName → Option Value) (mg mb : Str → Option Value) (news : List (Addr × Obj)) (A B : Str) (tk tk2 : Tok) :
   Cl0 w mean mg mb 50 news (A.cps.size ≤ 100 ∧ B.cps.size ≤ 100) [.str A tk, .str B tk2] (fun _ => .bool (dmF A B)) := by
  w_top off
  dsimp only [Cl0, CbRet]; k_fill
  intros; rename_i hpre _ _ hret
  obtain ⟨hz, hz2⟩ := hpre
  refine wpAny_call ?_
  (first | k_dflt cell_enter | ktn_no "k_call_by: the def is not entered")
  k_steps
  all_goals (first | (refine cb_retB (Q := _) hret ?e1 ?e2 ?e3; (case e2 => k_asm); (case e3 => k_asm); (case e1 => (simp only [beq_iff_eq, beq_eq_false_iff_ne] at *; simp [dmF, *]; done))))
end Mine
end
section
open PySem PySem.W PyProof.Rows
namespace Mine
set_option maxRecDepth 100000
set_option maxHeartbeats 4000000

abbrev fIt (a b c : UInt64) (t u v : Tok) : Array Value := #[.float a t, .float b u, .float c v]
def fAt (a b c : UInt64) (i : Nat) : UInt64 := if i = 0 then a else if i = 1 then b else c
theorem fIt_at {a b c : UInt64} {t u v : Tok} {i : Nat} {x : Value} (h : (fIt a b c t u v)[i]? = some x) : ∃ tk, x = .float (fAt a b c i) tk := by
  match i, h with
  | 0, h => exact ⟨t, by simpa [fIt, fAt] using h.symm⟩
  | 1, h => exact ⟨u, by simpa [fIt, fAt] using h.symm⟩
  | 2, h => exact ⟨v, by simpa [fIt, fAt] using h.symm⟩
  | i + 3, h => simp [fIt] at h

theorem cmp_fmax {prog : Program} {w : World} {A : Around} {P : Nat → Value → Prop} (val : Nat → UInt64) (hval : ∀ i v, P i v → ∃ t, v = .float (val i) t) :
    CmpOf prog w A .Gt P (fun i j => Float64.cmp (val i) (val j) == some .gt) := fun i j vi vj s Q E hi hj h => by
  obtain ⟨t, rfl⟩ := hval i vi hi
  obtain ⟨u, rfl⟩ := hval j vj hj
  exact richCompare_gives (op := .Gt) (typeIs_float s _ t) (typeIs_float s _ u) F.slot_float_gt F.entry_float_gt (F.args_float_gt_2 _ _) (AutoFloatG4.float___gt___float_float_0 _ t _ u) (fun x => nomatch x) h
theorem args_max3 (a b c : Value) : argsOk "max" ⟨[a, b, c], []⟩ := by unfold argsOk; kernel_rfl
def best_max (a b c : UInt64) : UInt64 := fAt a b c (argBest (fun i j => Float64.cmp (fAt a b c i) (fAt a b c j) == some .gt) 2)

section
variable {prog : Program} {w : World} {A : Around} {E : Value → Shared → Prop} {s : Shared} {h₀ : Heap} {L : Addr} {m : Str → Option Value} {news : List (Addr × Obj)}
theorem call_max_three {a b c : Value} {Q : Value → Shared → Prop}
    (h : wpAny (model prog w) A.in1 (pyIter (.ref s.heap.objs.size)) (fun it s₂ => ∃ I fp wr n P St bt, it = .ref I ∧ Walks prog w A.in1 I fp wr n P St ∧ St 0 s₂.heap ∧ (∀ b ∈ fp, b < s₂.heap.objs.size) ∧ 0 < n ∧ CmpOf prog w A.in1 .Gt P bt ∧
      ∀ v h' tk, P (argBest bt (n - 1)) v → (∀ b o, b ∉ wr → s₂.heap.get? b = some o → h'.get? b = some o) → Q v { s₂ with heap := h', toks := tk }) E
      { s with heap := s.heap.push { cls := .type "tuple", data := .seq #[a, b, c] } }) :
    wpAny (model prog w) A (call (.builtin "max") [a, b, c]) Q E s := by
  have hname : (toString "max" ++ toString ".loop" : String) = "max.loop" := by decide
  refine call_function_tree F.kind_max F.plain_max F.entry_max (args_max3 _ _ _) ?_
  show wpAny _ A.in1 (Builtin.Builtins.bindParams "max" ["key", "default"] 0 ⟨[], []⟩ >>= _) _ _ s
  refine wpAny_bind (wpAny_of_eq (show Builtin.Builtins.bindParams "max" ["key", "default"] 0 ⟨[], []⟩ = pure [none, none] from rfl) ?_)
  show wpAny _ A.in1 (newTuple [a, b, c] >>= _) _ _ s
  refine wpAny_bind (wpAny_newObj_type ?_)
  refine wpAny_bind (wpAny_mono h (fun it s₂ h₂ => ?_) fun _ _ e => e)
  obtain ⟨I, fp, wr, n, P, St, bt, rfl, W, hst, hfp, hn, hcmp, hQ⟩ := h₂
  refine wpAny_bind (wpAny_newObj_type ?_)
  have hSf : s₂.heap.objs.size ∉ fp := fun hm => Nat.lt_irrefl _ (hfp _ hm)
  rw [hname]
  refine wpAny_pure ⟨plainId_quiet F.plain_max_loop _, codeAny_max_loop_first W bt hcmp s₂.heap.objs.size hSf hn (W.frame _ _ _ hst fun b _ o e => Heap.get?_push_of_some _ e) (Heap.get?_push_size _ rfl) fun v h' tk hP hk => ?_⟩
  exact hQ v h' tk hP fun b o hbw e => hk b o hbw (Nat.ne_of_lt (Heap.lt_size e)) (Heap.get?_push_of_some _ e)

theorem max_three {a b c : UInt64} {t u v : Tok} {Q : Value → Shared → Prop} (hh : A.handled = none) (F : Fr h₀ L s.heap m) (N : News h₀ L s.heap news)
    (h : ∀ h' tk t', Fr h₀ L h' m → News h₀ L h' news → Q (.float (best_max a b c) t') { s with heap := h', toks := tk }) :
    wpAny (model prog w) A (call (.builtin "max") [.float a t, .float b u, .float c v]) Q E s := by
  have hT : (s.heap.push { cls := .type "tuple", data := .seq #[.float a t, .float b u, .float c v] }).IsTuple s.heap.objs.size (fIt a b c t u v) := ⟨_, Heap.get?_push_size _ rfl, rfl, 0, rfl⟩
  refine call_max_three (wpAny_pyIter_tuple hT ?_)
  have hsz : (s.heap.push { cls := .type "tuple", data := .seq #[.float a t, .float b u, .float c v] }).objs.size = s.heap.objs.size + 1 := Heap.size_push ..
  refine ⟨_, [_, s.heap.objs.size], [_], _, _, _, _, rfl, Walks.tuple (A := A.in1) hh _ s.heap.objs.size (by rw [hsz]; exact Nat.ne_of_lt (Nat.lt_succ_self _)) (fIt a b c t u v),
    ⟨⟨_, Heap.get?_push_size _ rfl, rfl, rfl⟩, hT.push _⟩, fun c hc => ?_, by simp [fIt], cmp_fmax (fAt a b c) (fun _ _ => fIt_at), fun v h' tk hP hk => ?_⟩
  · show c < ((s.heap.push _).push _).objs.size
    rw [Heap.size_push, hsz]
    rcases List.mem_cons.mp hc with rfl | hc
    · rw [hsz]; exact Nat.lt_succ_self _
    · rcases List.mem_cons.mp hc with rfl | hc
      · exact Nat.lt_succ_of_lt (Nat.lt_succ_self _)
      · cases hc
  · have hold : ∀ c o, s.heap.get? c = some o → h'.get? c = some o := fun c o e => by
      refine hk c o (fun hm => ?_) (Heap.get?_push_of_some _ (Heap.get?_push_of_some _ e))
      rcases List.mem_cons.mp hm with e1 | hm
      · have := Heap.lt_size e; rw [e1, hsz] at this; exact Nat.lt_irrefl _ (Nat.lt_of_succ_lt this)
      · cases hm
    obtain ⟨tk', rfl⟩ := fIt_at hP
    exact h h' tk tk' (F.grownK hold) (N.grown hold)
end

theorem cmp_fmin {prog : Program} {w : World} {A : Around} {P : Nat → Value → Prop} (val : Nat → UInt64) (hval : ∀ i v, P i v → ∃ t, v = .float (val i) t) :
    CmpOf prog w A .Lt P (fun i j => Float64.cmp (val i) (val j) == some .lt) := fun i j vi vj s Q E hi hj h => by
  obtain ⟨t, rfl⟩ := hval i vi hi
  obtain ⟨u, rfl⟩ := hval j vj hj
  exact richCompare_gives (op := .Lt) (typeIs_float s _ t) (typeIs_float s _ u) F.slot_float_lt F.entry_float_lt (F.args_float_lt_2 _ _) (AutoFloatG5.float___lt___float_float_0 _ t _ u) (fun x => nomatch x) h
theorem args_min3 (a b c : Value) : argsOk "min" ⟨[a, b, c], []⟩ := by unfold argsOk; kernel_rfl
def best_min (a b c : UInt64) : UInt64 := fAt a b c (argBest (fun i j => Float64.cmp (fAt a b c i) (fAt a b c j) == some .lt) 2)

section
variable {prog : Program} {w : World} {A : Around} {E : Value → Shared → Prop} {s : Shared} {h₀ : Heap} {L : Addr} {m : Str → Option Value} {news : List (Addr × Obj)}
theorem call_min_three {a b c : Value} {Q : Value → Shared → Prop}
    (h : wpAny (model prog w) A.in1 (pyIter (.ref s.heap.objs.size)) (fun it s₂ => ∃ I fp wr n P St bt, it = .ref I ∧ Walks prog w A.in1 I fp wr n P St ∧ St 0 s₂.heap ∧ (∀ b ∈ fp, b < s₂.heap.objs.size) ∧ 0 < n ∧ CmpOf prog w A.in1 .Lt P bt ∧
      ∀ v h' tk, P (argBest bt (n - 1)) v → (∀ b o, b ∉ wr → s₂.heap.get? b = some o → h'.get? b = some o) → Q v { s₂ with heap := h', toks := tk }) E
      { s with heap := s.heap.push { cls := .type "tuple", data := .seq #[a, b, c] } }) :
    wpAny (model prog w) A (call (.builtin "min") [a, b, c]) Q E s := by
  have hname : (toString "min" ++ toString ".loop" : String) = "min.loop" := by decide
  refine call_function_tree F.kind_min F.plain_min F.entry_min (args_min3 _ _ _) ?_
  show wpAny _ A.in1 (Builtin.Builtins.bindParams "min" ["key", "default"] 0 ⟨[], []⟩ >>= _) _ _ s
  refine wpAny_bind (wpAny_of_eq (show Builtin.Builtins.bindParams "min" ["key", "default"] 0 ⟨[], []⟩ = pure [none, none] from rfl) ?_)
  show wpAny _ A.in1 (newTuple [a, b, c] >>= _) _ _ s
  refine wpAny_bind (wpAny_newObj_type ?_)
  refine wpAny_bind (wpAny_mono h (fun it s₂ h₂ => ?_) fun _ _ e => e)
  obtain ⟨I, fp, wr, n, P, St, bt, rfl, W, hst, hfp, hn, hcmp, hQ⟩ := h₂
  refine wpAny_bind (wpAny_newObj_type ?_)
  have hSf : s₂.heap.objs.size ∉ fp := fun hm => Nat.lt_irrefl _ (hfp _ hm)
  rw [hname]
  refine wpAny_pure ⟨plainId_quiet F.plain_min_loop _, codeAny_min_loop_first W bt hcmp s₂.heap.objs.size hSf hn (W.frame _ _ _ hst fun b _ o e => Heap.get?_push_of_some _ e) (Heap.get?_push_size _ rfl) fun v h' tk hP hk => ?_⟩
  exact hQ v h' tk hP fun b o hbw e => hk b o hbw (Nat.ne_of_lt (Heap.lt_size e)) (Heap.get?_push_of_some _ e)

theorem min_three {a b c : UInt64} {t u v : Tok} {Q : Value → Shared → Prop} (hh : A.handled = none) (F : Fr h₀ L s.heap m) (N : News h₀ L s.heap news)
    (h : ∀ h' tk t', Fr h₀ L h' m → News h₀ L h' news → Q (.float (best_min a b c) t') { s with heap := h', toks := tk }) :
    wpAny (model prog w) A (call (.builtin "min") [.float a t, .float b u, .float c v]) Q E s := by
  have hT : (s.heap.push { cls := .type "tuple", data := .seq #[.float a t, .float b u, .float c v] }).IsTuple s.heap.objs.size (fIt a b c t u v) := ⟨_, Heap.get?_push_size _ rfl, rfl, 0, rfl⟩
  refine call_min_three (wpAny_pyIter_tuple hT ?_)
  have hsz : (s.heap.push { cls := .type "tuple", data := .seq #[.float a t, .float b u, .float c v] }).objs.size = s.heap.objs.size + 1 := Heap.size_push ..
  refine ⟨_, [_, s.heap.objs.size], [_], _, _, _, _, rfl, Walks.tuple (A := A.in1) hh _ s.heap.objs.size (by rw [hsz]; exact Nat.ne_of_lt (Nat.lt_succ_self _)) (fIt a b c t u v),
    ⟨⟨_, Heap.get?_push_size _ rfl, rfl, rfl⟩, hT.push _⟩, fun c hc => ?_, by simp [fIt], cmp_fmin (fAt a b c) (fun _ _ => fIt_at), fun v h' tk hP hk => ?_⟩
  · show c < ((s.heap.push _).push _).objs.size
    rw [Heap.size_push, hsz]
    rcases List.mem_cons.mp hc with rfl | hc
    · rw [hsz]; exact Nat.lt_succ_self _
    · rcases List.mem_cons.mp hc with rfl | hc
      · exact Nat.lt_succ_of_lt (Nat.lt_succ_self _)
      · cases hc
  · have hold : ∀ c o, s.heap.get? c = some o → h'.get? c = some o := fun c o e => by
      refine hk c o (fun hm => ?_) (Heap.get?_push_of_some _ (Heap.get?_push_of_some _ e))
      rcases List.mem_cons.mp hm with e1 | hm
      · have := Heap.lt_size e; rw [e1, hsz] at this; exact Nat.lt_irrefl _ (Nat.lt_of_succ_lt this)
      · cases hm
    obtain ⟨tk', rfl⟩ := fIt_at hP
    exact h h' tk tk' (F.grownK hold) (N.grown hold)
end
end Mine
end
section
open PySem PySem.W PyProof.Rows
namespace Mine
set_option maxRecDepth 100000
set_option maxHeartbeats 8000000

theorem cb_ret3 {h₀ h' : Heap} {L : Addr} {m : Str → Option Value} {news : List (Addr × Obj)} {s : Shared} {Q : Value → Shared → Prop} {f : UInt64 × UInt64 × UInt64} {x y z : UInt64} {t1 t2 t3 : Tok} {a : Addr} {tk' : Nat}
  (hret : ∀ (a : Addr) (t1 t2 t3 : Tok) (h' : Heap) (tk' : Nat), Fr h₀ L h' m → News h₀ L h' ((a, tupO [.float f.1 t1, .float f.2.1 t2, .float f.2.2 t3]) :: news) → (∀ p ∈ news, p.1 < a) → Q (.ref a) { s with heap := h', toks := tk' })
  (e : f = (x, y, z)) (F : Fr h₀ L h' m) (N : News h₀ L h' ((a, tupO [.float x t1, .float y t2, .float z t3]) :: news)) (l : ∀ p ∈ news, p.1 < a) : Q (.ref a) { s with heap := h', toks := tk' } := by
  subst e
  exact hret a t1 t2 t3 h' tk' F N l

abbrev one : UInt64 := 4607182418800017408
abbrev six : UInt64 := 4618441417868443648
def hI (h : UInt64) : Int := Flt.toInt Float64.truncOf (Float64.mul h six)
def hFr (h : UInt64) : UInt64 := Float64.sub (Float64.mul h six) (Float64.ofInt (hI h))
def hP : UInt64 := Float64.mul one (Float64.sub one one)
def hQ (h : UInt64) : UInt64 := Float64.mul one (Float64.sub one (Float64.mul one (hFr h)))
def hT (h : UInt64) : UInt64 := Float64.mul one (Float64.sub one (Float64.mul one (Float64.sub one (hFr h))))
def hsvF (h : UInt64) : UInt64 × UInt64 × UInt64 :=
  if (hI h).fmod 6 = 0 then (one, hT h, hP) else if (hI h).fmod 6 = 1 then (hQ h, one, hP) else if (hI h).fmod 6 = 2 then (hP, one, hT h)
  else if (hI h).fmod 6 = 3 then (hP, hQ h, one) else if (hI h).fmod 6 = 4 then (hT h, hP, one) else (one, hP, hQ h)
def hsvOk (h : UInt64) : Prop := Float64.isNaN (Float64.mul h six) = false ∧ Float64.isInf (Float64.mul h six) = false ∧ (hI h).natAbs < 2 ^ 1024 - 2 ^ 970
theorem one_ne : ¬ (Float64.cmp one 0 == some Ordering.eq) = true := by decide +kernel

theorem six_cases (x : Int) (h0 : x.fmod 6 ≠ 0) (h1 : x.fmod 6 ≠ 1) (h2 : x.fmod 6 ≠ 2) (h3 : x.fmod 6 ≠ 3) (h4 : x.fmod 6 ≠ 4) (h5 : x.fmod 6 ≠ 5) : False := by
  rw [Int.fmod_eq_emod_of_nonneg _ (by decide)] at *
  omega
theorem hsv_C (w : World) (mean : ExcName → Option Value) (mg mb : Str → Option Value) (news : List (Addr × Obj)) (h : UInt64) (tk tk2 tk3 : Tok) :
   ClT w mean mg mb 71 news (hsvOk h) [.float h tk, .float one tk2, .float one tk3] (fun t1 t2 t3 => [.float (hsvF h).1 t1, .float (hsvF h).2.1 t2, .float (hsvF h).2.2 t3]) := by
  w_top off
  dsimp only [ClT]; k_fill
  intros; rename_i hpre _ _ hret
  obtain ⟨hz1, hz2, hz3⟩ := hpre
  refine wpAny_call ?_
  (first | k_dflt cell_enter | ktn_no "k_call_by: the def is not entered")
  k_steps
  all_goals first
    | (exfalso; rename (Float64.isNaN _ = true) => h9; rw [hz1] at h9; cases h9)
    | (exfalso; rename (Float64.isInf _ = true) => h9; rw [hz2] at h9; cases h9)
    | (exfalso; rename (2 ^ 1024 - 2 ^ 970 ≤ _) => h9; exact absurd hz3 (Nat.not_lt.mpr h9))
    | (exfalso; rename ((Float64.cmp _ _ == _) = true) => h9; exact one_ne h9)
    | (refine' cb_ret3 (Q := _) hret ?e1 ?e2 ?e3 ?e4; (case e2 => k_asm); (case e3 => k_asm); (case e4 => assumption); (case e1 => unfold hsvF hI; (repeat (first | rw [if_pos (by assumption)] | rw [if_neg (by assumption)])); rfl))
    | exact absurd (six_cases _ (by assumption) (by assumption) (by assumption) (by assumption) (by assumption) (by assumption)) id
end Mine
end
section
open PySem PySem.W PyProof.Rows PySem.Calls
namespace Mine
set_option maxRecDepth 100000
set_option maxHeartbeats 4000000
open Sem (wp)
/-- new tokens only: a run never takes one back -/
theorem runs_toks {M : Model} {Γ : Ctx} {p : Pos} {t : Sem Fin} {fs : List Frame} {s s' : Shared} {e : End} (h : Runs M Γ p t fs s e s') : s.toks ≤ s'.toks := by
  induction h with
  | fresh _ ih => exact Nat.le_trans (Nat.le_succ _) ih
  | _ => first
    | exact Nat.le_refl _
    | assumption
    | (rename_i ih1 ih2; exact Nat.le_trans ih1 ih2)
theorem wakes_toks {M : Model} {Γ : Ctx} {p : Pos} {g : Nat} {r : Resume} {s s' : Shared} {res : GenResult} (h : Wakes M Γ p g r s res s') : s.toks ≤ s'.toks := by
  unfold Wakes at h
  split at h
  · exact h.elim
  · split at h
    · obtain ⟨e, s₁, hr, _, _, rfl⟩ := h; have z := runs_toks hr; exact z
    · rw [h.2]; exact Nat.le_refl _
    · rw [h.2]; exact Nat.le_refl _
  · obtain ⟨e, s₁, hr, _, _, rfl⟩ := h; have z := runs_toks hr; exact z
  · rw [h.2]; exact Nat.le_refl _
  · rw [h.2]; exact Nat.le_refl _
theorem wp_toks {X : Type} {M : Model} {Γ : Ctx} {Q : X → Pos → Shared → Prop} {E : Value → Pos → Shared → Prop} (t : Sem X) (n : Nat) (p : Pos) (s : Shared) (hn : n ≤ s.toks)
    (h : wp M Γ t (fun a p' s' => n ≤ s'.toks → Q a p' s') E p s) : wp M Γ t Q E p s := by
  induction t generalizing p s with
  | pure x => exact h hn
  | raise v => exact h
  | unsupported | finish | yield | fork | await | register => exact h
  | fresh k ih => exact ih _ _ _ (Nat.le_succ_of_le hn) h
  | rule _ k ih | «at» _ k ih | alloc _ k ih | loadIfAlive _ k ih | point _ k ih | ask k ih | os _ _ k ih | handled _ k ih | newGen _ k ih | stack k ih | thread k ih => exact ih _ _ _ hn h
  | load a _ k ih | genState a k ih => exact let ⟨o, ho, h⟩ := h; ⟨o, ho, ih _ _ _ hn h⟩
  | update a _ f k ih | choose _ _ k ih => exact ⟨h.1, ih _ _ _ hn h.2⟩
  | call c hh g l k ih => obtain ⟨r, s', hr, h⟩ := h; exact ⟨r, s', hr, ih _ _ _ (Nat.le_trans hn (runs_toks hr)) h⟩
  | resume g r l k ih => obtain ⟨res, s', hw, h⟩ := h; exact ⟨res, s', hw, ih _ _ _ (Nat.le_trans hn (wakes_toks hw)) h⟩
theorem wpAny_toks {X : Type} {M : Model} {A : Around} {Q : X → Shared → Prop} {E : Value → Shared → Prop} {t : Sem X} {s : Shared} (h : wpAny M A t (fun a s' => s.toks ≤ s'.toks → Q a s') E s) : wpAny M A t Q E s :=
  fun Γ p hΓ => wp_toks t s.toks p s (Nat.le_refl _) (h Γ p hΓ)
theorem execs_cons_toks {M : Model} {A : Around} {E : Value → Shared → Prop} {s : Shared} {env : Env} {st : Stmt} {rest : List Stmt} {Q : Flow → Shared → Prop}
    (h : wpAny M A (exec st env) (fun f s' => s.toks ≤ s'.toks → match f with | .next => wpAny M A (execs rest env) Q E s' | f => Q f s') E s) : wpAny M A (execs (st :: rest) env) Q E s :=
  wpAny_execs_cons (wpAny_toks h)
end Mine
end
section
open PySem PySem.W PyProof.Rows
namespace Mine
set_option maxRecDepth 100000
set_option maxHeartbeats 8000000
section
variable {prog : Program} {w : World} {A : Around} {E : Value → Shared → Prop} {s : Shared} {h₀ : Heap} {L : Addr} {m : Str → Option Value} {news : List (Addr × Obj)}
theorem max_three_e {a b c x : UInt64} {t u v : Tok} {Q : Value → Shared → Prop} (hh : A.handled = none) (e : best_max a b c = x) (F : Fr h₀ L s.heap m) (N : News h₀ L s.heap news)
    (h : ∀ h' tk t', Fr h₀ L h' m → News h₀ L h' news → Q (.float x t') { s with heap := h', toks := tk }) :
    wpAny (model prog w) A (call (.builtin "max") [.float a t, .float b u, .float c v]) Q E s := max_three hh F N (e ▸ h)
theorem min_three_e {a b c x : UInt64} {t u v : Tok} {Q : Value → Shared → Prop} (hh : A.handled = none) (e : best_min a b c = x) (F : Fr h₀ L s.heap m) (N : News h₀ L s.heap news)
    (h : ∀ h' tk t', Fr h₀ L h' m → News h₀ L h' news → Q (.float x t') { s with heap := h', toks := tk }) :
    wpAny (model prog w) A (call (.builtin "min") [.float a t, .float b u, .float c v]) Q E s := min_three hh F N (e ▸ h)
end
local macro_rules | `(tactic| walk_at "call builtin:max") => `(tactic| (k_here; (refine' max_three_e ?hh ?e ?F ?N ?_; (case hh => with_unfolding_all rfl); (case e => assumption); (case F => k_asm); (case N => k_asm)); intro _ _ _ _ _; (try dsimp only)))
local macro_rules | `(tactic| walk_at "call builtin:min") => `(tactic| (k_here; (refine' min_three_e ?hh ?e ?F ?N ?_; (case hh => with_unfolding_all rfl); (case e => assumption); (case F => k_asm); (case N => k_asm)); intro _ _ _ _ _; (try dsimp only)))

local macro_rules | `(tactic| walk_at "ite") => `(tactic| (k_here; k_closed; first | refine ite_pos (by decide +kernel) ?_ | refine ite_neg (by decide +kernel) ?_))
local macro_rules | `(tactic| walk_at "execs cons") => `(tactic| (k_here; refine execs_cons_toks ?_))
abbrev two : UInt64 := 4611686018427387904
abbrev four : UInt64 := 4616189618054758400
def rc1 (x : UInt64) : UInt64 := Float64.div (Float64.sub one x) (Float64.sub one 0)
def rgbF (r g b : UInt64) : UInt64 × UInt64 × UInt64 :=
  ((Float64.divmod (Float64.div (if (Float64.cmp r one == some Ordering.eq) = true then Float64.sub (rc1 b) (rc1 g) else if (Float64.cmp g one == some Ordering.eq) = true then Float64.sub (Float64.add two (rc1 r)) (rc1 b) else Float64.sub (Float64.add four (rc1 g)) (rc1 r)) six) one).snd,
   Float64.div (Float64.add one 0) two, Float64.div (Float64.sub one 0) (Float64.add one 0))
/-- a call that gives back a new tuple of three new values -/
abbrev ClTn (w : World) (mean : ExcName → Option Value) (mg mb : Str → Option Value) (f : Addr) (news : List (Addr × Obj)) (pre : Prop) (vs : List Value) (R : Tok → Tok → Tok → List Value) : Prop :=
  ∀ (dp un : Nat) (gd : Option (List Code)) (cn : Str) (cs : Scope) (a : Addr) (ccd : Value) (cl : List (Str × Addr)) (outer : List Env) (A₀ : Around) (base h₀ : Heap) (L : Addr) (m : Str → Option Value) (s : Shared) (Q E : Value → Shared → Prop),
    Below A₀ base outer h₀ → Fr h₀ L s.heap m → (hd.heap_39 w.params).In h₀ → News h₀ L s.heap news → Top hd.view_39 lawL mean mg mb h₀ → cs.kind = .function →
    pre → dp + 10 < recursionLimit → un + 80 < cLine →
    (∀ (a : Addr) (t1 t2 t3 : Tok) (h' : Heap) (tk' : Nat), (t1 ≠ 0 ∧ t2 ≠ 0 ∧ t3 ≠ 0) → Fr h₀ L h' m → News h₀ L h' ((a, tupO (R t1 t2 t3)) :: news) → (∀ p ∈ news, p.1 < a) → Q (.ref a) { s with heap := h', toks := tk' }) →
      wpAny (model PySem.Challenge.rw_zo0021_01.row.prog w) (ktrTop dp un gd cn cs L a ccd cl outer) (call (.ref f) vs) Q E s
theorem useTn {w : World} {mean : ExcName → Option Value} {mg mb : Str → Option Value} {f : Addr} {news : List (Addr × Obj)} {pre : Prop} {vs : List Value} {R : Tok → Tok → Tok → List Value}
   (C : ClTn w mean mg mb f news pre vs R)
   {dp un : Nat} {gd : Option (List Code)} {cn : Str} {cs : Scope} {a : Addr} {ccd : Value} {cl : List (Str × Addr)} {outer : List Env} {A₀ : Around} {base h₀ : Heap} {L : Addr} {m : Str → Option Value} {s : Shared} {Q E : Value → Shared → Prop}
   (B : Below A₀ base outer h₀) (F : Fr h₀ L s.heap m) (X : (hd.heap_39 w.params).In h₀) (N : News h₀ L s.heap news) (T : Top hd.view_39 lawL mean mg mb h₀) (hk : cs.kind = .function) (hp : pre) (hd : dp + 10 < recursionLimit) (hu : un + 80 < cLine)
   (ret : ∀ (a : Addr) (t1 t2 t3 : Tok) (h' : Heap) (tk' : Nat), (t1 ≠ 0 ∧ t2 ≠ 0 ∧ t3 ≠ 0) → Fr h₀ L h' m → News h₀ L h' ((a, tupO (R t1 t2 t3)) :: news) → (∀ p ∈ news, p.1 < a) → Q (.ref a) { s with heap := h', toks := tk' }) :
      wpAny (model PySem.Challenge.rw_zo0021_01.row.prog w) (ktrTop dp un gd cn cs L a ccd cl outer) (call (.ref f) vs) Q E s :=
  C _ _ _ _ _ _ _ _ _ _ _ _ _ _ _ _ _ B F X N T hk hp hd hu ret
theorem cb_ret3n {h₀ h' : Heap} {L : Addr} {m : Str → Option Value} {news : List (Addr × Obj)} {s : Shared} {Q : Value → Shared → Prop} {f : UInt64 × UInt64 × UInt64} {x y z : UInt64} {t1 t2 t3 : Tok} {a : Addr} {tk' : Nat}
  (hret : ∀ (a : Addr) (t1 t2 t3 : Tok) (h' : Heap) (tk' : Nat), (t1 ≠ 0 ∧ t2 ≠ 0 ∧ t3 ≠ 0) → Fr h₀ L h' m → News h₀ L h' ((a, tupO [.float f.1 t1, .float f.2.1 t2, .float f.2.2 t3]) :: news) → (∀ p ∈ news, p.1 < a) → Q (.ref a) { s with heap := h', toks := tk' })
  (e : f = (x, y, z)) (F : Fr h₀ L h' m) (N : News h₀ L h' ((a, tupO [.float x t1, .float y t2, .float z t3]) :: news)) (l : ∀ p ∈ news, p.1 < a) (n1 : t1 ≠ 0) (n2 : t2 ≠ 0) (n3 : t3 ≠ 0) : Q (.ref a) { s with heap := h', toks := tk' } := by
  subst e
  exact hret a t1 t2 t3 h' tk' ⟨n1, n2, n3⟩ F N l
theorem rgb_C (w : World) (mean : ExcName → Option Value) (mg mb : Str → Option Value) (news : List (Addr × Obj)) (r g b : UInt64) (tk tk2 tk3 : Tok) :
   ClTn w mean mg mb 64 news (best_max r g b = one ∧ best_min r g b = 0) [.float r tk, .float g tk2, .float b tk3] (fun t1 t2 t3 => [.float (rgbF r g b).1 t1, .float (rgbF r g b).2.1 t2, .float (rgbF r g b).2.2 t3]) := by
  w_top off
  dsimp only [ClTn]; k_fill
  intros; rename_i hpre _ _ hret
  obtain ⟨hmx, hmn⟩ := hpre
  refine wpAny_call ?_
  (first | k_dflt cell_enter | ktn_no "k_call_by: the def is not entered")
  k_steps
  iterate 12 (all_goals (try (intro htk; (try dsimp only at htk ⊢); k_steps)))
  all_goals first
    | (refine' cb_ret3n (Q := _) hret ?e1 ?e2 ?e3 ?e4 ?e5 ?e6 ?e7; (case e2 => k_asm); (case e3 => k_asm); (case e4 => assumption); (case e1 => unfold rgbF; (repeat (first | rw [if_pos (by assumption)] | rw [if_neg (Bool.eq_false_iff.mp (by assumption))])); rfl); (case e5 => first | exact Nat.succ_ne_zero _ | omega); (case e6 => first | exact Nat.succ_ne_zero _ | omega); (case e7 => first | exact Nat.succ_ne_zero _ | omega))
end Mine
end
section
open PySem PySem.W PyProof.Rows
namespace Mine
local macro_rules | `(tactic| walk_at "zz 0") => `(tactic| skip)
set_option maxRecDepth 100000
set_option maxHeartbeats 8000000

section
variable {prog : Program} {w : World} {A : Around} {E : Value → Shared → Prop} {s : Shared} {x y z : Str} {t u v : Tok} {i k : Int} {Q : Value → Shared → Prop}
theorem find_e (e : Txt.find x y = k) (h : ∀ t' tk', Q (.int k t') { s with toks := tk' }) : wpAny (model prog w) A (call (.builtin "str.find") [.str x t, .str y u]) Q E s := SC.find (by rw [e]; exact h _ _)
theorem find3_e (e : Txt.find3 x y i = k) (h : ∀ t' tk', Q (.int k t') { s with toks := tk' }) : wpAny (model prog w) A (call (.builtin "str.find") [.str x t, .str y u, .int i v]) Q E s := SC.find3 (by rw [e]; exact h _ _)
theorem item_e {value slice : PySem.Expr} (e : Txt.item x i = y) (h0 : 0 ≤ i) (h1 : i < x.length) (h2 : x.length ≤ 1048576) (h : ∀ t' tk', Q (.str y t') { s with toks := tk' })
    (hs : subscripted slice false (.str x t) (.int i u) = operate [.str x t, .int i u] (getItem (.str x t) (.int i u)) := by with_unfolding_all rfl)
    (ht : ∀ r, letTemporaryGo value (.str x t) r = pure () := by intro _; with_unfolding_all rfl) :
    wpAny (model prog w) A (subscriptTail value slice (.str x t) (.int i u)) Q E s :=
  item_str (fitsSsize_of (N := 9223372036854775808) (by omega) (by omega) (Int.le_refl _)) (by omega) (by omega) (fun _ => by rw [e]; exact h _ _) hs ht
theorem split5 {h₀ : Heap} {L : Addr} {m : Str → Option Value} {news : List (Addr × Obj)} {a b c d f : Str} (hF : Fr h₀ L s.heap m) (hN : News h₀ L s.heap news) (e : Txt.split x y = [a, b, c, d, f]) (hy : (y.length == 0) = false) (hsz : x.length ≤ 1048576)
    (h : ∀ D t1 t2 t3 t4 t5 h' k, Fr h₀ L h' m → News h₀ L h' ((D, listOf #[.str a t1, .str b t2, .str c t3, .str d t4, .str f t5] 0) :: news) → (∀ p ∈ news, p.1 < D) → Q (.ref D) { s with heap := h', toks := k }) :
    wpAny (model prog w) A (call (.builtin "str.split") [.str x t, .str y u]) Q E s := by
  refine KSpl.split1 hF hN hy (fun D l h' k e' _ F' N' l1 => ?_) (by rw [sizeLine_eq]; omega)
  rw [e] at e'
  obtain ⟨t1, l', rfl, e2⟩ := KSpl.cons_of e'
  obtain ⟨t2, l', rfl, e3⟩ := KSpl.cons_of e2
  obtain ⟨t3, l', rfl, e4⟩ := KSpl.cons_of e3
  obtain ⟨t4, l', rfl, e5⟩ := KSpl.cons_of e4
  obtain ⟨t5, l', rfl, e6⟩ := KSpl.cons_of e5
  have := KSpl.nil_of e6
  subst this
  exact h D t1 t2 t3 t4 t5 h' k F' N' l1
end

/-- a reply that parse229 takes: the right bracket's place, the mark, the parts, the port -/
structure P229 (resp : Str) (r : Int) (mk : Str) (a b c d f : Str) (port : Int) : Prop where
  size : resp.length ≤ 100
  head : (Txt.slice resp none (some 3) != Str.ofString "229") = false
  left : Txt.find resp (Str.ofString "(") = 9
  right : Txt.find3 resp (Str.ofString ")") (9 + 1) = r
  rlo : 10 < r
  rhi : r < resp.length
  m1 : Txt.item resp (9 + 1) = mk
  m2 : Txt.item resp (r - 1) = mk
  cut : Txt.split (Txt.slice resp (some (9 + 1)) (some r)) mk = [a, b, c, d, f]
  one : (mk.length == 0) = false
  num : PySem.intText? d = some port
  len : d.length ≤ 640

local macro_rules | `(tactic| walk_at "call builtin:str.find") => `(tactic| (k_here; (first | (refine' find_e ?e ?_; (case e => assumption)) | (refine' find3_e ?e ?_; (case e => assumption))); intro _ _; (try dsimp only)))
local macro_rules | `(tactic| walk_at "subscriptTail Name BinOp str int") => `(tactic| (k_here; k_dflt (refine' item_e ?e ?h0 ?h1 ?h2 ?_ ?h3 ?h4; (case h3 => with_unfolding_all rfl); (case h4 => intro _; with_unfolding_all rfl); (case e => assumption); (case h0 => omega); (case h1 => omega); (case h2 => omega)); intro _ _; (try dsimp only)))

local macro_rules | `(tactic| walk_at "call builtin:str.split") => `(tactic| (k_here; (refine' split5 ?F ?N ?e ?y ?z ?_; (case F => k_asm); (case N => k_asm); (case e => assumption); (case y => assumption); (case z => simp only [Str.length] at *; omega)); intro _ _ _ _ _ _ _ _ _ _ l1; (try k_lt l1); (try dsimp only)))
local macro_rules | `(tactic| walk_at "call type:int") => `(tactic| (k_here; (refine' KIN.call_text ?n ?l ?_; (case n => assumption); (case l => assumption))))
theorem p229_C (w : World) (mean : ExcName → Option Value) (mg mb : Str → Option Value) (news : List (Addr × Obj)) (resp host mk : Str) (a b c d f : Str) (r port : Int) (tk tk2 tk3 : Tok) (pa : Addr) :
   ClT w mean mg mb 115 ((pa, tupO [.str host tk2, .int 21 tk3]) :: news) (P229 resp r mk a b c d f port) [.str resp tk, .ref pa] (fun t1 t2 _ => [.str host t1, .int port t2]) := by
  w_top off
  dsimp only [ClT]; k_fill
  intros; rename_i hpre _ _ hret
  obtain ⟨hsz, hhead, hleft, hright, hrlo, hrhi, hm1, hm2, hcut, hone, hnum, hlen⟩ := hpre
  have hz : resp.cps.size ≤ 1048576 := by simp only [Str.length] at hsz; omega
  refine wpAny_call ?_
  (first | k_dflt cell_enter | ktn_no "k_call_by: the def is not entered")
  k_steps
  all_goals first
    | (exfalso; rename ((_ != _) = true) => h9; rw [hhead] at h9; cases h9)
    | (exfalso; rename ((_ != _) = true) => h9; simp at h9; done)
    | (refine' hret _ _ _ 0 _ _ ?e2 ?e3 ?e4; (case e2 => k_asm); (case e3 => (refine' cb_drop ?cbN ?cbS; (case cbN => assumption); (case cbS => kcj_all))); (case e4 => exact ktn_ltOf (l := _ :: _) (And.right (by assumption))))
end Mine
end
section
open PySem PySem.W PyProof.Rows PySem.Calls
namespace Mine
set_option maxRecDepth 100000
set_option maxHeartbeats 8000000

/-- the call's own heap stands below the callee: what stood stays -/
theorem pure_def {prog : Program} {w : World} {A A₀ : Around} {s : Shared} {K : Frag} {L : Addr} {h₀ base : Heap} {m mg mb : Str → Option Value} {p : Program} {loose : List Str} {mean : ExcName → Option Value} {env : Env} {outer : List Env} {R : Result → Shared → Prop} {name qual : Str} {params : Arguments} {body : List Stmt} {scope : Scope} {dV kV doc pm cdv ct oc : Value} {an od : Option Addr} {osl : Array (Option Value)} {f : Addr} {args : Args} {binds : List (Str × Value)}
    (B : Below A₀ base outer h₀) (F : Fr h₀ L s.heap m) (X₀ : K.In h₀) (T : Top p loose mean mg mb h₀) (hA : A.frames = some (env :: outer)) (hf : env.frame = some L) (hke : env.scope.kind = .function)
    (ho : K.lookup f = some ⟨oc, od, .func (fnOf name qual params body scope dV kV doc pm an cdv ct), osl⟩) (hcd : codeIn K cdv qual = true) (hroom : A.depth < recursionLimit)
    (hbind : BindsTo s (fnOf name qual params body scope dV kV doc pm an cdv ct) args binds) (hloc : ∀ y ∈ binds, scope.names.lookup y.1 = some .local)
    (h : ∀ g L' h₁, s.heap.StaysIn g → Fr h₀ L g m → Fr g L' h₁ (fun y => binds.reverse.lookup y) → News g L' h₁ [] → Below A base (env :: outer) g → K.In g → Top p loose mean mg mb g →
      wpAny (model prog w) (A.deeper (envOf qual scope L' f cdv)) (execs body (envOf qual scope L' f cdv))
        (fun fl s' => LeaveK h₀ L m g R (match fl with | .ret v => v | _ => .none) s')
        (fun e s' => wpAny (model prog w) (A.deeper (envOf qual scope L' f cdv)) (leaving (envOf qual scope L' f cdv) e) (fun _ s'' => R (.error e) s'') (fun e' s'' => R (.error e') s'') s')
        { s with heap := h₁, toks := s.toks + binds.length })
    (hco : scope.isCoroutine = false) (hgen : scope.isGenerator = false) (hk : scope.kind = .function)
    (hcell : ∀ x ∈ scope.names, x.2 ≠ .cell) : codeAny (model prog w) A (.call (.ref f) args) R s := by
  obtain ⟨FG, BG, st, lv⟩ := groundX (R := R) B F (News.nil : News h₀ L s.heap []) hA hf hke
  refine codeAny_call_def (fd := fnOf name qual params body scope dV kV doc pm an cdv ct) (body := body) (binds := binds) hroom ((X₀.keeps F.keep) _ _ ho) rfl (T.nolimit.keeps F.keep) (codeRec_of (X₀.keeps F.keep) hcd) rfl hbind hcell hloc (fun h₁ hns hk₁ => ?_) hco hgen hk
  exact wpAny_mono (h s.heap s.heap.objs.size h₁ (fun _ _ e => e) FG ⟨hns, hk₁, Nat.le_refl _⟩ News.nil BG (X₀.keeps F.keep) (T.keeps F.keep)) (fun fl s' hl => lv _ _ hl) fun _ _ y => y

theorem pure_defC {prog : Program} {w : World} {A A₀ : Around} {s : Shared} {K : Frag} {L : Addr} {h₀ base : Heap} {m mg mb : Str → Option Value} {p : Program} {loose : List Str} {mean : ExcName → Option Value} {env : Env} {outer : List Env} {R : Result → Shared → Prop} {name qual : Str} {params : Arguments} {body : List Stmt} {scope : Scope} {dV kV doc pm cdv ct oc : Value} {an od : Option Addr} {osl : Array (Option Value)} {f : Addr} {args : Args} {binds : List (Str × Value)}
    (B : Below A₀ base outer h₀) (F : Fr h₀ L s.heap m) (X₀ : K.In h₀) (T : Top p loose mean mg mb h₀) (hA : A.frames = some (env :: outer)) (hf : env.frame = some L) (hke : env.scope.kind = .function)
    (ho : K.lookup f = some ⟨oc, od, .func (fnOf name qual params body scope dV kV doc pm an cdv ct), osl⟩) (hcd : codeIn K cdv qual = true) (hroom : A.depth < recursionLimit)
    (hbind : BindsTo s (fnOf name qual params body scope dV kV doc pm an cdv ct) args binds) (hkind : (binds.all fun y => scope.names.lookup y.1 == some .local || scope.names.lookup y.1 == some .cell) = true)
    (hnd : ((cellsFrom 0 scope.names []).map (·.1)).Nodup)
    (h : ∀ g L' h₁ tk cells, s.heap.StaysIn g → Fr h₀ L g m → Fr g L' h₁ (bindL (envOfC qual scope L' f cdv).kindOf binds fun _ => none) → News g L' h₁ (cells ++ []) →
      CellsAre (bindC (envOfC qual scope L' f cdv).kindOf binds fun _ => none) (cellsFrom (L' + 1) scope.names []) cells → Below A base (env :: outer) g → K.In g → Top p loose mean mg mb g →
      wpAny (model prog w) (A.deeper (envOfC qual scope L' f cdv)) (execs body (envOfC qual scope L' f cdv))
        (fun fl s' => LeaveK h₀ L m g R (match fl with | .ret v => v | _ => .none) s')
        (fun e s' => wpAny (model prog w) (A.deeper (envOfC qual scope L' f cdv)) (leaving (envOfC qual scope L' f cdv) e) (fun _ s'' => R (.error e) s'') (fun e' s'' => R (.error e') s'') s')
        { s with heap := h₁, toks := tk })
    (hco : scope.isCoroutine = false) (hgen : scope.isGenerator = false) (hk : scope.kind = .function) : codeAny (model prog w) A (.call (.ref f) args) R s := by
  obtain ⟨FG, BG, st, lv⟩ := groundX (R := R) B F (News.nil : News h₀ L s.heap []) hA hf hke
  refine codeAny_call_function (fd := fnOf name qual params body scope dV kV doc pm an cdv ct) hroom ((X₀.keeps F.keep) _ _ ho) rfl hco hgen rfl (codeRec_of (X₀.keeps F.keep) hcd) (hbind _ _ _ _ ?_)
  refine wpAny_newFunctionEnv_cells hk (kindsX hkind _) fun env' he s' x => ?_
  subst he
  refine ⟨(T.nolimit.keeps F.keep).keeps x.toInCall.keep, codeAny_func ?_⟩
  obtain ⟨h₁, tk, rfl, _⟩ := x.done
  have hk₁ := x.toInCall.keep
  obtain ⟨cells, NC, Y⟩ := Cl.news (h₀ := s.heap) (Nat.le_refl _) fun n c hm => ⟨x.cell n c (lookup_of_mem_nodup (cellsFrom_names scope.names 0 (s.heap.objs.size + 1) [] [] rfl ▸ hnd) hm), x.above n c hm⟩
  refine wpAny_mono (h s.heap s.heap.objs.size h₁ tk cells (fun _ _ e => e) FG ⟨x.toInCall.ns, hk₁, Nat.le_refl _⟩ (by rw [List.append_nil]; exact NC) Y BG (X₀.keeps F.keep) (T.keeps F.keep)) (fun fl s' hl => lv _ _ hl) fun _ _ y => y

/-- a pure call's claim -/
abbrev ClP (w : World) (mean : ExcName → Option Value) (mg mb : Str → Option Value) (f : Addr) (pre : Heap → Prop) (vs : List Value) (R : Tok → Value) : Prop :=
  ∀ (dp un : Nat) (gd : Option (List Code)) (cn : Str) (cs : Scope) (a : Addr) (ccd : Value) (cl : List (Str × Addr)) (outer : List Env) (A₀ : Around) (base h₀ : Heap) (L : Addr) (m : Str → Option Value) (s : Shared) (Q E : Value → Shared → Prop),
    Below A₀ base outer h₀ → Fr h₀ L s.heap m → (hd.heap_39 w.params).In h₀ → Top hd.view_39 lawL mean mg mb h₀ → cs.kind = .function →
    pre s.heap → dp + 10 < recursionLimit → un + 80 < cLine →
    (∀ (t : Tok) (h' : Heap) (tk' : Nat), Fr h₀ L h' m → s.heap.StaysIn h' → Q (R t) { s with heap := h', toks := tk' }) →
      wpAny (model PySem.Challenge.rw_zo0021_01.row.prog w) (ktrTop dp un gd cn cs L a ccd cl outer) (call (.ref f) vs) Q E s

theorem useP {w : World} {mean : ExcName → Option Value} {mg mb : Str → Option Value} {f : Addr} {pre : Heap → Prop} {vs : List Value} {R : Tok → Value}
   (C : ClP w mean mg mb f pre vs R)
   {dp un : Nat} {gd : Option (List Code)} {cn : Str} {cs : Scope} {a : Addr} {ccd : Value} {cl : List (Str × Addr)} {outer : List Env} {A₀ : Around} {base h₀ : Heap} {L : Addr} {m : Str → Option Value} {s : Shared} {Q E : Value → Shared → Prop} {news : List (Addr × Obj)}
   (B : Below A₀ base outer h₀) (F : Fr h₀ L s.heap m) (X : (hd.heap_39 w.params).In h₀) (N : News h₀ L s.heap news) (T : Top hd.view_39 lawL mean mg mb h₀) (hk : cs.kind = .function) (hp : pre s.heap) (hd : dp + 10 < recursionLimit) (hu : un + 80 < cLine)
   (ret : ∀ (t : Tok) (h' : Heap) (tk' : Nat), Fr h₀ L h' m → News h₀ L h' news → Q (R t) { s with heap := h', toks := tk' }) :
      wpAny (model PySem.Challenge.rw_zo0021_01.row.prog w) (ktrTop dp un gd cn cs L a ccd cl outer) (call (.ref f) vs) Q E s :=
  C _ _ _ _ _ _ _ _ _ _ _ _ _ _ _ _ _ B F X T hk hp hd hu fun t h' tk' F' st => ret t h' tk' F' (N.grown st)
end Mine
end
section
open PySem PySem.W PyProof.Rows
namespace Mine
set_option maxRecDepth 100000
set_option maxHeartbeats 8000000
theorem cb_PI {h₀ h' g : Heap} {L L' : Addr} {m m' : Str → Option Value} {s : Shared} {Q : Value → Shared → Prop} {x y : Int} {t : Tok} {tk' : Nat}
  (hret : ∀ (t : Tok) (h' : Heap) (tk' : Nat), Fr h₀ L h' m → s.heap.StaysIn h' → Q (.int x t) { s with heap := h', toks := tk' }) (hst : s.heap.StaysIn g) (e : y = x) (F : Fr h₀ L h' m) (Fe : Fr g L' h' m') : Q (.int y t) { s with heap := h', toks := tk' } := by
  subst e
  exact hret t h' tk' F fun b o q => Fe.keep b o (hst b o q)
def minF (c k : Int) : Int := if (-c).fmod k < c.fmod k then (-c).fmod k else c.fmod k
def mostF (c : Int) : Int := (((c + Int.fdiv 16 2 * minF c 2) + Int.fdiv 16 4 * minF c 4) + Int.fdiv 16 8 * minF c 8) + Int.fdiv 16 16 * minF c 16
theorem most_C (w : World) (mean : ExcName → Option Value) (mg mb : Str → Option Value) (c : Int) (tk : Tok) :
   ClP w mean mg mb 134 (fun _ => 1 ≤ c ∧ c ≤ 12) [.int c tk] (fun t' => .int (mostF c) t') := by
  w_top off
  dsimp only [ClP]; k_fill
  intros; rename_i hpre _ _ hret
  obtain ⟨hlo, hhi⟩ := hpre
  refine wpAny_call ?_
  k_dflt (refine' pure_def ?k1 ?k2 ?k3 ?k5 ?kA ?kF ?kK ?k6 ?k7 ?k8 ?k9 ?kB ?_ ?c2 ?c3 ?c4 ?c5; (case kA => exact rfl); (case kF => exact rfl); (case kK => assumption); (case k1 => k_asm); (case k2 => k_asm); (case k3 => k_asm); (case k5 => k_asm); (case k6 => k_is); (case k7 => k_is); (case k8 => ktr_room); (case k9 => exact BindsTo.of_eq rfl); (case c5 => decide); (case kB => exact locs rfl); (case c2 => exact rfl); (case c3 => exact rfl); (case c4 => exact rfl); k_whole; intro g' L' h' hst FG' F' N' B' X' T'; (try dsimp only); (try k_lift B'); (try k_fold))
  k_steps
  all_goals (refine' cb_PI (Q := _) hret hst ?e ?F ?G; (case F => k_asm); (case G => k_asm); (case e => rfl))
end Mine
end
section
open PySem PySem.W PyProof.Rows PySem.Calls
namespace Mine
set_option maxRecDepth 100000
set_option maxHeartbeats 8000000
def lawBody : List Stmt := match PySem.Challenge.pw_zo0021_01.main.body.getLast? with
  | some (.FunctionDef _ _ b _ _ _ _ _ _ _) => b
  | _ => []
def lawScope : Scope := match PySem.Challenge.pw_zo0021_01.main.body.getLast? with
  | some (.FunctionDef _ _ _ _ _ _ sc _ _ _) => sc
  | _ => default

theorem enter_top {prog : Program} {w : World} {A : Around} {s : Shared} {K : Frag} {mg mb : Str → Option Value} {p : Program} {loose : List Str} {mean : ExcName → Option Value} {R : Result → Shared → Prop} {name qual : Str} {params : Arguments} {body : List Stmt} {scope : Scope} {dV kV doc pm cdv ct oc : Value} {an od : Option Addr} {osl : Array (Option Value)} {f : Addr} {args : Args} {binds : List (Str × Value)}
    (X₀ : K.In s.heap) (T : Top p loose mean mg mb s.heap)
    (ho : K.lookup f = some ⟨oc, od, .func (fnOf name qual params body scope dV kV doc pm an cdv ct), osl⟩) (hcd : codeIn K cdv qual = true) (hroom : A.depth < recursionLimit)
    (hbind : BindsTo s (fnOf name qual params body scope dV kV doc pm an cdv ct) args binds) (hkind : (binds.all fun y => scope.names.lookup y.1 == some .local || scope.names.lookup y.1 == some .cell) = true)
    (hnd : ((cellsFrom 0 scope.names []).map (·.1)).Nodup)
    (h : ∀ L' h₁ tk cells, Fr s.heap L' h₁ (bindL (envOfC qual scope L' f cdv).kindOf binds fun _ => none) → News s.heap L' h₁ (cells ++ []) →
      CellsAre (bindC (envOfC qual scope L' f cdv).kindOf binds fun _ => none) (cellsFrom (L' + 1) scope.names []) cells →
      wpC (model prog w) (A.deeper (envOfC qual scope L' f cdv)) (execs body (envOfC qual scope L' f cdv))
        (fun fl s' => R (.ok (.ret (match fl with | .ret v => v | _ => .none))) s') (fun _ _ => False) { s with heap := h₁, toks := tk })
    (hco : scope.isCoroutine = false) (hgen : scope.isGenerator = false) (hk : scope.kind = .function) : codeC (model prog w) A (.call (.ref f) args) R s := by
  refine codeC_call_function (fd := fnOf name qual params body scope dV kV doc pm an cdv ct) hroom (X₀ _ _ ho) rfl hco hgen rfl (codeRec_of X₀ hcd) (hbind _ _ _ _ ?_)
  refine wpAny_newFunctionEnv_cells hk (kindsX hkind _) fun env' he s' x => ?_
  subst he
  refine ⟨T.nolimit.keeps x.toInCall.keep, codeC_func ?_⟩
  obtain ⟨h₁, tk, rfl, _⟩ := x.done
  have hk₁ := x.toInCall.keep
  obtain ⟨cells, NC, Y⟩ := Cl.news (h₀ := s.heap) (Nat.le_refl _) fun n c hm => ⟨x.cell n c (lookup_of_mem_nodup (cellsFrom_names scope.names 0 (s.heap.objs.size + 1) [] [] rfl ▸ hnd) hm), x.above n c hm⟩
  exact wpC_mono (h s.heap.objs.size h₁ tk cells ⟨x.toInCall.ns, hk₁, Nat.le_refl _⟩ (by rw [List.append_nil]; exact NC) Y) (fun _ _ x => x) fun _ _ x => x.elim

theorem pure_defX {prog : Program} {w : World} {A A₀ : Around} {s : Shared} {K : Frag} {L : Addr} {h₀ base : Heap} {m mg mb : Str → Option Value} {p : Program} {loose : List Str} {mean : ExcName → Option Value} {env : Env} {outer : List Env} {R : Result → Shared → Prop} {name qual : Str} {params : Arguments} {body : List Stmt} {scope : Scope} {dV kV doc pm cdv ct oc : Value} {an od : Option Addr} {osl : Array (Option Value)} {f : Addr} {args : Args} {binds : List (Str × Value)}
    (B : Below A₀ base outer h₀) (F : Fr h₀ L s.heap m) (X₀ : K.In h₀) (T : Top p loose mean mg mb h₀) (hA : A.frames = some (env :: outer)) (hf : env.frame = some L) (hke : env.scope.kind = .function)
    (ho : K.lookup f = some ⟨oc, od, .func (fnOf name qual params body scope dV kV doc pm an cdv ct), osl⟩) (hcd : codeIn K cdv qual = true) (hroom : A.depth < recursionLimit)
    (hbind : BindsTo s (fnOf name qual params body scope dV kV doc pm an cdv ct) args binds) (hloc : ∀ y ∈ binds, scope.names.lookup y.1 = some .local)
    (h : ∀ g L' h₁, s.heap.StaysIn g → Fr h₀ L g m → Fr g L' h₁ (fun y => binds.reverse.lookup y) → News g L' h₁ [] → Below A base (env :: outer) g → K.In g → Top p loose mean mg mb g →
      wpC (model prog w) (A.deeper (envOf qual scope L' f cdv)) (execs body (envOf qual scope L' f cdv))
        (fun fl s' => LeaveK h₀ L m g R (match fl with | .ret v => v | _ => .none) s') (fun _ _ => False)
        { s with heap := h₁, toks := s.toks + binds.length })
    (hco : scope.isCoroutine = false) (hgen : scope.isGenerator = false) (hk : scope.kind = .function)
    (hcell : ∀ x ∈ scope.names, x.2 ≠ .cell) : codeC (model prog w) A (.call (.ref f) args) R s := by
  obtain ⟨FG, BG, st, lv⟩ := groundX (R := R) B F (News.nil : News h₀ L s.heap []) hA hf hke
  refine codeC_call_function (fd := fnOf name qual params body scope dV kV doc pm an cdv ct) hroom ((X₀.keeps F.keep) _ _ ho) rfl hco hgen rfl (codeRec_of (X₀.keeps F.keep) hcd) (hbind _ _ _ _ ?_)
  refine wpAny_newFunctionEnv hcell hloc (fun h₁ hns hsb => ⟨(T.nolimit.keeps F.keep).fresh _ hsb, codeC_func ?_⟩) hk
  have hk₁ : ∀ b o, s.heap.get? b = some o → h₁.get? b = some o := fun b o e => hsb.extBut b o (Nat.ne_of_lt (Heap.lt_size e)) (Heap.get?_push_of_some _ e)
  exact wpC_mono (h s.heap s.heap.objs.size h₁ (fun _ _ e => e) FG ⟨hns, hk₁, Nat.le_refl _⟩ News.nil BG (X₀.keeps F.keep) (T.keeps F.keep)) (fun fl s' hl => lv _ _ hl) fun _ _ y => y.elim
end Mine
end
section
open PySem PySem.W PyProof.Rows PySem.Calls
namespace Mine
set_option maxRecDepth 100000
set_option maxHeartbeats 8000000
section
variable {prog : Program} {w : World} {A : Around} {E : Value → Shared → Prop} {s : Shared} {h₀ : Heap} {L : Addr} {m : Str → Option Value}
theorem labItem {value slice : PySem.Expr} {pa : Addr} {a b : Str} {t1 t2 u : Tok} {k : Int} {Q : Value → Shared → Prop} (F : Fr h₀ L s.heap m) (hl : h₀.IsList pa #[.str a t1, .str b t2]) (h0 : 0 ≤ k) (h1 : k < 2)
    (h : ∀ t, Q (.str ([a, b].getD k.toNat Str.empty) t) s)
    (hs : subscripted slice false (.ref pa) (.int k u) = operate [.ref pa, .int k u] (getItem (.ref pa) (.int k u)) := by with_unfolding_all rfl) :
    wpAny (model prog w) A (subscriptTail value slice (.ref pa) (.int k u)) Q E s :=
  item_strsR (vs := [.str a t1, .str b t2]) (ys := [a, b]) (hl.at fun o e => F.keep _ o e) (.cons _ _ (.cons _ _ .nil)) h0 (by simpa using h1) (by omega) h hs
theorem join6 {news : List (Addr × Obj)} {D : Addr} {sep x0 x1 x2 x3 x4 x5 : Str} {t u0 u1 u2 u3 u4 u5 : Tok} {Q : Value → Shared → Prop} (N : News h₀ L s.heap news) (hm : (D, listOf #[.str x0 u0, .str x1 u1, .str x2 u2, .str x3 u3, .str x4 u4, .str x5 u5] 0) ∈ news)
    (h0 : x0.length ≤ 10) (h1 : x1.length ≤ 10) (h2 : x2.length ≤ 10) (h3 : x3.length ≤ 10) (h4 : x4.length ≤ 10) (h5 : x5.length ≤ 10) (hs : sep.length ≤ 16)
    (h : ∀ t' k, Q (.str (Txt.join sep [x0, x1, x2, x3, x4, x5]) t') { s with toks := k }) :
    wpAny (model prog w) A (call (.builtin "str.join") [.str sep t, .ref D]) Q E s :=
  SC.join (l := [(x0, u0), (x1, u1), (x2, u2), (x3, u3), (x4, u4), (x5, u5)]) (News.isList N hm) rfl (joinOk_of_weight (by simp only [List.map_cons, List.map_nil, List.sum_cons, List.sum_nil, List.length_cons, List.length_nil]; omega) hs) h
end
abbrev pk (a b : Str) (k : Int) : Str := [a, b].getD k.toNat Str.empty
theorem pk_len {a b : Str} (ha : a.length ≤ 10) (hb : b.length ≤ 10) (k : Int) : (pk a b k).length ≤ 10 := by
  unfold pk
  rcases k.toNat with _ | _ | n
  · exact ha
  · exact hb
  · exact Nat.zero_le 10
theorem len_ftp : (Str.ofString "ftp").length ≤ 10 := by decide +kernel
theorem len_local : (Str.ofString "local").length ≤ 10 := by decide +kernel
theorem len_sep : (Str.ofString ".").length ≤ 16 := by decide +kernel
def hostF (a b : Str) (port : Int) : Str := Txt.join (Str.ofString ".") [Str.ofString "ftp", pk a b (port.fdiv 8), pk a b ((port.fdiv 4).fmod 2), pk a b ((port.fdiv 2).fmod 2), pk a b (port.fmod 2), Str.ofString "local"]
theorem cb_PS {h₀ h' g : Heap} {L L' : Addr} {m m' : Str → Option Value} {s : Shared} {Q : Value → Shared → Prop} {x y : Str} {t : Tok} {tk' : Nat}
  (hret : ∀ (t : Tok) (h' : Heap) (tk' : Nat), Fr h₀ L h' m → s.heap.StaysIn h' → Q (.str x t) { s with heap := h', toks := tk' }) (hst : s.heap.StaysIn g) (e : y = x) (F : Fr h₀ L h' m) (Fe : Fr g L' h' m') : Q (.str y t) { s with heap := h', toks := tk' } := by
  subst e
  exact hret t h' tk' F fun b o q => Fe.keep b o (hst b o q)
local macro_rules | `(tactic| walk_at "call builtin:str.join") => `(tactic| (k_here; (refine' join6 ?N ?m ?h0 ?h1 ?h2 ?h3 ?h4 ?h5 ?hs ?_; (case N => k_asm); (case m => k_mem); (case h0 => exact len_ftp); (case h1 => exact pk_len (by assumption) (by assumption) _); (case h2 => exact pk_len (by assumption) (by assumption) _); (case h3 => exact pk_len (by assumption) (by assumption) _); (case h4 => exact pk_len (by assumption) (by assumption) _); (case h5 => exact len_local); (case hs => exact len_sep)); intro _ _; (try dsimp only)))
local macro_rules | `(tactic| walk_at "eval ListComp") => `(tactic| (k_here; k_dflt (refine LCg.ListComp_U (F₀ := by k_asm) (by rfl) (by decide) (by rfl) (by decide) (by rfl) ?_); k_dflt lcg_toSrc))
local macro_rules | `(tactic| walk_at "CompSrc") => `(tactic| (k_here; k_dflt (refine LCg.CompSrc.ledger (by rfl) (by k_asm) (by k_asm) (by k_mem) (by first | size_fits | exact Nat.le_of_ble_eq_true rfl) ?_; intro g'; lcg_lit)))
local macro_rules | `(tactic| walk_at "subscriptTail Name Name ref int") => `(tactic| (k_here; k_dflt (refine' labItem ?F ?l ?h0 ?h1 ?_ ?hs; (case F => k_asm); (case l => assumption); (case h0 => l_fact); (case h1 => l_fact); (case hs => with_unfolding_all rfl)); intro _; (try dsimp only)))
theorem host_C (w : World) (mean : ExcName → Option Value) (mg mb : Str → Option Value) (port : Int) (a b : Str) (tk t1 t2 : Tok) (pa : Addr):
   ClP w mean mg mb 127 (fun h => (0 ≤ port ∧ port < 16 ∧ a.length ≤ 10 ∧ b.length ≤ 10) ∧ h.get? pa = some (listOf #[.str a t1, .str b t2] 0)) [.int port tk, .ref pa] (fun t => .str (hostF a b port) t) := by
  w_top off
  dsimp only [ClP]; k_fill
  intros; rename_i hpre _ _ hret
  obtain ⟨⟨hlo, hhi, ha, hb⟩, hpa⟩ := hpre
  refine wpAny_call ?_
  k_dflt (refine' pure_defC ?k1 ?k2 ?k3 ?k5 ?kA ?kF ?kK ?k6 ?k7 ?k8 ?k9 ?kB ?kD ?_ ?c2 ?c3 ?c4; (case kA => exact rfl); (case kF => exact rfl); (case kK => assumption); (case k1 => k_asm); (case k2 => k_asm); (case k3 => k_asm); (case k5 => k_asm); (case k6 => k_is); (case k7 => k_is); (case k8 => ktr_room); (case k9 => exact BindsTo.of_eq rfl); (case kB => exact rfl); (case kD => decide +kernel); (case c2 => exact rfl); (case c3 => exact rfl); (case c4 => exact rfl); k_whole)
  intro g' L' h' tk' cells' hst FG' F' N' Y' B' X' T'
  have hls : g'.IsList pa #[.str a t1, .str b t2] := ⟨_, hst _ _ hpa, rfl, 0, rfl⟩
  clear hpa
  k_cells Y'
  simp only [List.cons_append, List.nil_append] at N'
  (try dsimp only)
  (try k_fold)
  k_steps
  all_goals (refine' cb_PS (Q := _) hret hst ?e ?F ?G; (case F => k_asm); (case G => k_asm); (case e => rfl))
end Mine
end
section
open PySem PySem.W PyProof.Rows PySem.Calls
namespace Mine
set_option maxRecDepth 100000
set_option maxHeartbeats 4000000
theorem slot_ba_set : Slot "bytearray" "__setitem__" "bytearray.__setitem__" :=
  .of (owner := "bytearray") (n := "__setitem__") (by rw [typeLookup_type, builtinLookup_eq_fast]; kernel_rfl) (by decide +kernel) (by decide +kernel) (by decide +kernel)
    (by first | exact .inl (by decide +kernel) | exact .inr (by decide +kernel)) (by rw [isSubtype_type]; kernel_rfl)
theorem entry_ba_set : entryFor table "bytearray.__setitem__" = some Builtin.«bytearray.__setitem__» := entryFor_of_tree (by kernel_rfl)
theorem args_ba_set (a b c : Value) : argsOk "bytearray.__setitem__" ⟨[a, b, c], []⟩ := by
  unfold argsOk
  first
  | (rw [signature?_of (id := "bytearray.__setitem__") (n := ['_','_','m','e','t','i','t','e','s','_','_']) (o := ['y','a','r','r','a','e','t','y','b']) (by kernel_rfl) owner_ba]; kernel_rfl)
  | trivial
theorem ba_no_bytes : typeLookup (.type "bytearray") "__bytes__" = pure none := by rw [typeLookup_type, builtinLookup_eq_fast]; kernel_rfl
theorem ba_no_index : typeLookup (.type "bytearray") "__index__" = pure none := by rw [typeLookup_type, builtinLookup_eq_fast]; kernel_rfl
theorem ba_buffer : typeLookup (.type "bytearray") "__buffer__" = pure (some (.builtin "bytearray.__buffer__")) := by rw [typeLookup_type, builtinLookup_eq_fast]; kernel_rfl
theorem buf_ends : ("bytearray.__buffer__".endsWith ("." ++ "__buffer__")) = true := by decide +kernel
theorem buf_own : "bytearray.__buffer__".dropRight ("__buffer__".length + 1) = "bytearray" := by decide +kernel
section
variable {prog : Program} {w : World} {A : Around} {E : Value → Shared → Prop} {s : Shared} {h₀ : Heap} {L : Addr} {m : Str → Option Value} {news news' : List (Addr × Obj)} {a : Addr} {b : Array UInt8}
theorem wp_payload {Q : Array UInt8 → Shared → Prop} (ho : s.heap.get? a = some (baO b)) (h : Q b s) : wpAny (model prog w) A (Builtin.Bytes.payload (.ref a)) Q E s := by
  unfold Builtin.Bytes.payload
  refine wpAny_bind (show wpAny _ _ (do match (← load a).data with | .prim (.bytes b _) | .bytearray b .. => pure (some b) | _ => pure none) _ _ _ from wpAny_bind (wpAny_load ho (wpAny_pure ?_)))
  exact wpAny_pure h
theorem set_ba {k v : Int} {t u : Tok} {Q : Unit → Shared → Prop} (ho : s.heap.get? a = some (baO b)) (h0 : 0 ≤ k) (h1 : k < b.size) (hz : b.size ≤ 1048576) (v0 : 0 ≤ v) (v1 : v < 256)
    (h : Q () { s with heap := s.heap.update a (Obj.mapBytearray (·.setIfInBounds k.toNat v.toNat.toUInt8)) }) :
    wpAny (model prog w) A (setItem (.ref a) (.int k t) (.int v u)) Q E s := by
  have hT : s.TypeIs (.ref a) "bytearray" := ⟨_, ho, rfl⟩
  unfold setItem
  refine wpAny_holding ?_
  refine wpAny_bind (wpAny_sequenceKey hT (by decide) ?_)
  refine wpAny_bind (wpAny_callSpecial?_slot (name := Str.ofString "__setitem__") hT slot_ba_set
    (wpAny_call_entry slot_ba_set hT entry_ba_set ?_ (args_ba_set _ _ _)))
  unfold Builtin.«bytearray.__setitem__»
  refine bm_if_false rfl ?_
  refine wpAny_bind ?_
  unfold Builtin.Bytes.subscript?
  refine wpAny_bind (wpAny_specialOf (name := Str.ofString "__index__") (typeIs_int _ k t) F.slot_int_index.lookup ?_)
  refine bm_if_false rfl ?_
  refine wpAny_bind (show wpAny _ _ (asIndex (.int k t)) _ _ _ from wpAny_bind (wpAny_pure (wpAny_pure ?_)))
  rw [if_neg (by unfold Builtin.Bytes.fitsIndex; simp; omega)]
  refine wpAny_pure ?_
  dsimp only
  refine wpAny_bind (show wpAny _ _ (Builtin.Bytes.byteValue (.int v u)) _ _ _ from ?_)
  unfold Builtin.Bytes.byteValue
  refine wpAny_bind (show wpAny _ _ (asIndex (.int v u)) _ _ _ from wpAny_bind (wpAny_pure (wpAny_pure ?_)))
  rw [if_neg (by simp; omega)]
  refine wpAny_pure ?_
  refine wpAny_bind (wp_payload ho ?_)
  have hs : seqIndex? k b.size = some k.toNat := by
    unfold seqIndex?
    simp
    omega
  rw [hs]
  refine wpAny_bind (wp_write ho (by rw [Array.size_setIfInBounds]; exact hz) ?_)
  first
    | exact wpAny_bind (wpAny_pure (wpAny_pure ⟨.none, rfl, wpAny_pure h⟩))
    | exact wpAny_pure ⟨.none, rfl, wpAny_pure h⟩
theorem set_K {k v : Int} {t u : Tok} {Q : Unit → Shared → Prop} (F : Fr h₀ L s.heap m) (N : News h₀ L s.heap news) (U : Upd a (baO b) (baO (b.setIfInBounds k.toNat v.toNat.toUInt8)) news news') (h0 : 0 ≤ k) (h1 : k < b.size) (hz : b.size ≤ 1048576) (v0 : 0 ≤ v) (v1 : v < 256)
    (h : ∀ h', Fr h₀ L h' m → News h₀ L h' news' → Q () { s with heap := h' }) : wpAny (model prog w) A (setItem (.ref a) (.int k t) (.int v u)) Q E s := by
  obtain ⟨pre, post, rfl, rfl, x, y⟩ := U.split
  have z := N (a, baO b) (List.mem_append.mpr (.inr (.head _)))
  exact set_ba z.1 h0 h1 hz v0 v1 (h _ (F.change (Heap.SameBut.update ..) z.2.1 z.2.2) (news_set N x y (Heap.SameBut.update ..) (ba_upd z.1)))

theorem wp_mkBytes {Q : Value → Shared → Prop} (hz : b.size ≤ 1048576) (hQ : ∀ t k, Q (.bytes b t) { s with toks := k }) : wpAny (model prog w) A (mkBytes b) Q E s := by
  unfold mkBytes
  first
    | exact wpAny_bind (fun _ _ _ => hQ _ _)
    | (rw [if_neg (by rw [sizeLine_eq]; omega)]; exact fun _ _ _ => hQ _ _)
    | exact fun _ _ _ => hQ _ _
theorem ba_new_bytes {Q : Value → Shared → Prop} (ho : s.heap.get? a = some (baO b)) (hz : b.size ≤ 1048576) (hQ : ∀ t k, Q (.bytes b t) { s with toks := k }) :
    codeAny (model prog w) A (.call (.builtin "bytes.__new__") ⟨[.type "bytes", .ref a], []⟩) (wants Q E) s := by
  refine codeAny_of_tree ?_
  show wpAny _ A.in1 (do checkBuiltinCall "bytes.__new__" ⟨[.type "bytes", .ref a], []⟩; again (.builtin "bytes.__new__" ⟨[.type "bytes", .ref a], []⟩)) _ _ s
  refine wpAny_bind (wpAny_of_eq (F.bm_newCall _) (wpAny_pure ⟨plainId_quiet F.bm_plain _, codeAny_builtin F.bm_entry ?_⟩))
  rw [Around.under_plainId F.bm_plain _]
  have hT : s.TypeIs (.ref a) "bytearray" := ⟨_, ho, rfl⟩
  unfold Builtin.«bytes.__new__»
  refine wpAny_bind (wpAny_of_eq (a := true) rfl ?_)
  refine bm_if_false rfl ?_
  refine wpAny_bind (wpAny_of_eq F.bm_sub ?_)
  refine bm_if_false rfl ?_
  refine wpAny_bind (wpAny_of_eq (F.bm_bind _) ?_)
  refine wpAny_bind (wpAny_of_eq (a := ()) rfl ?_)
  refine wpAny_bind (wpAny_of_eq (a := ()) rfl ?_)
  refine bm_if_false rfl ?_
  refine wpAny_bind (wpAny_specialOf hT ba_no_bytes ?_)
  refine wpAny_bind (wpAny_bind ?_)
  show wpAny _ _ (load a >>= _) _ _ _
  refine wpAny_bind (wpAny_load ho ?_)
  refine wpAny_pure (wpAny_pure ?_)
  refine bm_if_false rfl ?_
  refine wpAny_bind (wpAny_specialOf hT ba_no_index ?_)
  refine bm_if_true rfl ?_
  first
    | show wpAny _ _ (Builtin.Bytes.buffer? "bytes.__new__" (.ref a) true >>= _) _ _ _
    | (refine wpAny_bind ?_; show wpAny _ _ (Builtin.Bytes.buffer? "bytes.__new__" (.ref a) true >>= _) _ _ _)
  refine wpAny_bind ?_
  unfold Builtin.Bytes.buffer?
  refine wpAny_bind (wpAny_specialOf hT ba_buffer ?_)
  dsimp only
  refine wpAny_bind ?_
  unfold Builtin.Bytes.slotIsOwn
  refine wpAny_bind (wpAny_specialOf hT ba_buffer ?_)
  dsimp only
  rw [buf_ends, buf_own, if_neg (by decide)]
  refine wpAny_isInstance hT sub_ba_self ?_
  refine bm_if_false rfl ?_
  refine wpAny_bind (wpAny_specialOf hT ba_buffer ?_)
  refine wpAny_bind (wp_ownRelease hT ?_)
  refine bm_if_false rfl ?_
  refine wpAny_bind (wp_payload ho (wpAny_pure ?_))
  refine wpAny_bind (wpAny_rule ?_)
  refine wpAny_bind (wp_mkBytes hz fun t k => ?_)
  refine (show wpAny _ _ (ret (.bytes b t)) _ _ _ from wpAny_pure (hQ _ _))

theorem call_bytes_ba {Q : Value → Shared → Prop} (ho : s.heap.get? a = some (baO b)) (hz : b.size ≤ 1048576) (hQ : ∀ t k, Q (.bytes b t) { s with toks := k }) :
    wpAny (model prog w) A (call (.type "bytes") [.ref a]) Q E s := by
  refine callType_codes (Q₁ := fun obj s₁ => s₁.TypeIs obj "bytes" ∧ Q obj s₁) F.bm_called (F.bm_typeCall _) F.entry_object_init
    (ba_new_bytes ho hz fun t k => ⟨PySem.W.typeIs_bytes _ _ _, hQ t k⟩) fun obj s₁ h₁ => ?_
  exact ⟨h₁.1, F.args_object_init_2 obj _, object_init_meets F.bm_called.init.lookup F.bm_called.made (by decide) prog w A.in1 _ s₁ ⟨h₁.1, rfl, h₁.2⟩⟩
end
end Mine
end
section
open PySem PySem.W PyProof.Rows PySem.Calls
namespace Mine
set_option maxRecDepth 100000
set_option maxHeartbeats 4000000
section
variable {prog : Program} {w : World} {A : Around} {E : Value → Shared → Prop} {s : Shared} {env : Env} {h₀ : Heap} {x : Str} {body : List Stmt} {Q : Flow → Shared → Prop}
/-- a loop over a range, by what holds of the frame and of the ledger ahead of each turn -/
theorem iter_rg {r : Addr} {a₀ b₀ c : Int} {t₀ u₀ v₀ : Tok} {n : Nat} {m₀ : Str → Option Value} {news : List (Addr × Obj)} (J : Nat → (Str → Option Value) → List (Addr × Obj) → Prop)
    (hh : A.handled = none) (hr : IsRange s.heap r a₀ b₀ c t₀ u₀ v₀) (hsmall : Builtin.Range.small a₀ b₀ c = true) (hn : Builtin.Range.rangeSize a₀ b₀ c = (n : Int)) (F : Fr h₀ env.locals s.heap m₀) (N : News h₀ env.locals s.heap news) (hj : J 0 m₀ news)
    (turn : ∀ i t m₁ news₁ h tk own, i < n → news₁.map (·.1) = news.map (·.1) → OwnOff own (news.map (·.1)) → J i m₁ news₁ → Fr h₀ env.locals h (fun y => if y = x then some (.int (a₀ + (i : Int) * c) t) else m₁ y) → News h₀ env.locals h (news₁ ++ own) →
      wpAny (model prog w) A (execs body env) (InvPostN h₀ env.locals (J (i + 1)) own (news.map (·.1)) { s with heap := h, toks := tk } Q) E { s with heap := h, toks := tk })
    (done : ∀ m₁ news₁ h tk, J n m₁ news₁ → Fr h₀ env.locals h m₁ → News h₀ env.locals h news₁ → Q .next { s with heap := h, toks := tk }) :
    wpAny (model prog w) A (pyIter (.ref r)) (fun it s₂ => LoopAtV prog w A h₀ env x body Q E it s₂) E s := by
  refine wpAny_pyIter_range hr hsmall ?_
  refine loop_invN J (Walks.range hh s.heap.objs.size a₀ c n).bound ?_ ?_ ?_ ?_ (by show IsRangeIter _ _ _ _ _; rw [hn]; simpa using Heap.get?_push_size _ rfl) (F.push _) (fun p hp => ⟨Heap.get?_push_of_some _ (N p hp).1, (N p hp).2⟩) hj ?_ ?_
  · intro hm
    exact absurd F.ns.lt ((List.mem_singleton.mp hm) ▸ Nat.lt_irrefl _)
  · intro b hb
    rw [List.mem_singleton.mp hb]
    exact next_is_new F
  · intro p hp hI
    exact absurd (Heap.lt_size (N p hp).1) ((List.mem_singleton.mp hI) ▸ Nat.lt_irrefl _)
  · intro p hp hI
    exact absurd (Heap.lt_size (N p hp).1) ((List.mem_singleton.mp hI) ▸ Nat.lt_irrefl _)
  · rintro i v m₁ nx h tk own hi ⟨_, t, rfl⟩ hadr hoff hJ F₁ N₁
    exact turn i t m₁ nx h tk own hi hadr hoff hJ F₁ N₁
  · intro m₁ nx h tk hJ F₁ N₁
    exact done m₁ nx h tk hJ F₁ N₁
end
theorem m_eq {m : Str → Option Value} {ps : List (Str × Value)} (hk : ∀ p ∈ ps, m p.1 = some p.2) : kstB m ps = m := funext fun _ => kstB_eq hk fun _ => rfl
theorem fr_names {h₀ h : Heap} {L : Addr} {m : Str → Option Value} (ps : List (Str × Value)) (hk : ∀ p ∈ ps, m p.1 = some p.2) (F : Fr h₀ L h m) : Fr h₀ L h (kstB m ps) := by rw [m_eq hk]; exact F
theorem fr_names1 {h₀ h : Heap} {L : Addr} {m : Str → Option Value} {x : Str} {v : Value} (ps : List (Str × Value)) (hk : ∀ p ∈ ps, m p.1 = some p.2) (F : Fr h₀ L h (fun y => if y = x then some v else m y)) : Fr h₀ L h (fun y => if y = x then some v else kstB m ps y) := by rw [m_eq hk]; exact F
end Mine
namespace Mine
/-- the walk stands still here -/
structure Halt (p : Prop) : Prop where
  out : p
end Mine
namespace Mine
theorem end_drop (k : Nat) {h₀ : Heap} {L : Addr} {J : (Str → Option Value) → List (Addr × Obj) → Prop} {m' : Str → Option Value} {own big nx : List (Addr × Obj)} {adr : List Addr} {s₁ : Shared} {h' : Heap} {tk : Nat} (F : Fr h₀ L h' m') (N : News h₀ L h' big) (e : big.drop k = nx ++ own) (hj : J m' nx) (ha : nx.map (·.1) = adr) :
    InvEndN h₀ L J own adr s₁ { s₁ with heap := h', toks := tk } :=
  InvEndN.intro F N hj ha (fun _ hp => List.mem_of_mem_drop (i := k) (e ▸ List.mem_append.mpr (.inl hp))) fun _ hp => List.mem_of_mem_drop (i := k) (e ▸ List.mem_append.mpr (.inr hp))
end Mine
end
section
open PySem PySem.W PyProof.Rows PySem.Calls
namespace Mine
local macro_rules | `(tactic| walk_at "zz 0") => `(tactic| skip)
set_option maxRecDepth 100000
set_option maxHeartbeats 8000000
theorem wpC_callWith_type {M : Model} {A : Around} {E : Value → Shared → Prop} {s : Shared} {env : Env} {T : String} {pos : Pos} {e : PySem.Expr} {rest : List PySem.Expr} {Q : Value → Shared → Prop}
    (h : wpAny M A (spliced (backTo pos (starEach (e :: rest) env))) (fun vs s₁ => wpC M A (call (.type T) vs) Q E s₁) E s)
    (he : starEach (e :: rest) env = (false, eval e env) :: starEach rest env := by rfl) (hplain : (backTo pos (starEach rest env)).any (·.1) = false := by rfl) :
    wpC M A (callWith pos (.type T) [] (backTo pos (starEach (e :: rest) env)) []) Q E s := by
  rw [he] at h ⊢
  have hpl : (((backTo pos ((false, eval e env) :: starEach rest env)).any (·.1)) || ([] : List (Option Str × Sem Value)).any (·.1.isNone)) = false := by show ((false || (backTo pos (starEach rest env)).any (·.1)) || false) = false; rw [hplain]; rfl
  unfold callWith
  refine wpC_bind (wpC_holding (wpC_of (wpAny_mono (evalArgs_plain (Q := fun a s₁ => wpC M A (call (.type T) a.pos a.kw) Q E s₁) h) (fun a s₁ h₁ => wpC_bindA (wpAny_standAt ?_)) fun _ _ x => x)))
  simp only [hpl]
  refine wpC_bindA (wpAny_pure ?_)
  have h2 : wpC M A (call (.type T) ([] ++ a.pos) a.kw) Q E s₁ := h₁
  exact wpC_bind (wpC_mono h2 (fun r s₂ hr => wpC_bindA (wpAny_holding (wpAny_point (wpC_of (wpAny_pure hr))))) fun _ _ x => x)

abbrev bsN (d : Array UInt8) (t t2 : Tok) (S : Addr) : List (Str × Value) := [(Str.ofString "data", .bytes d t), (Str.ofString "width", .int 4 t2), (Str.ofString "swapped_data", .ref S)]
def BsJ (d : Array UInt8) (t t2 : Tok) (S : Addr) (i : Nat) (m : Str → Option Value) (nx : List (Addr × Obj)) : Prop :=
  ∃ b : Array UInt8, nx = [(S, baO b)] ∧ b.size = d.size ∧ (∀ p j, p < i → j < 4 → b[4 * p + j]? = d[4 * p + 3 - j]?) ∧ ∀ q ∈ bsN d t t2 S, m q.1 = some q.2
def BsI (d : Array UInt8) (t t2 : Tok) (S : Addr) (own : List (Addr × Obj)) (i : Nat) (ti : Tok) (k : Nat) (m : Str → Option Value) (nx : List (Addr × Obj)) : Prop :=
  ∃ b : Array UInt8, nx = (S, baO b) :: own ∧ b.size = d.size ∧ (∀ p j, p < i → j < 4 → b[4 * p + j]? = d[4 * p + 3 - j]?) ∧ (∀ j, j < k → b[4 * i + 3 - j]? = d[4 * i + j]?) ∧ ∀ q ∈ (Str.ofString "i", Value.int (0 + (i : Int) * 4) ti) :: bsN d t t2 S, m q.1 = some q.2
section
variable {prog : Program} {w : World} {A : Around} {E : Value → Shared → Prop} {s : Shared}
theorem byte_at {value slice : PySem.Expr} {d : Array UInt8} {t u : Tok} {k : Int} {Q : Value → Shared → Prop} (h0 : 0 ≤ k) (h1 : k < d.size) (hz : d.size ≤ 1048576)
    (h : ∀ t', Q (.int ((d.getD k.toNat 0).toNat : Int) t') { s with toks := s.toks + 1 })
    (hs : subscripted slice false (.bytes d t) (.int k u) = operate [.bytes d t, .int k u] (getItem (.bytes d t) (.int k u)) := by with_unfolding_all rfl)
    (ht : ∀ r, letTemporaryGo value (.bytes d t) r = pure () := by intro _; with_unfolding_all rfl) :
    wpAny (model prog w) A (subscriptTail value slice (.bytes d t) (.int k u)) Q E s := by
  refine subscriptTail_builtin (typeIs_bytes _ _ _) FB.slot_bytes_getitem.lookup (getItem_bytes ?_ ?_ ?_ ?_) hs ht
  · rw [Array.length_toList]; omega
  · exact h0
  · rw [Array.length_toList]; exact h1
  · have e : d.toList.getD k.toNat 0 = d.getD k.toNat 0 := by
      have hk : k.toNat < d.size := by omega
      rw [List.getD_eq_getElem?_getD, Array.getElem?_toList, Array.getD_eq_getD_getElem?]
    rw [e]
    exact h _
end
theorem rg4 : ∀ n, n < 21 → Builtin.Range.small 0 ((4 * n : Nat) : Int) 4 = true ∧ Builtin.Range.rangeSize 0 ((4 * n : Nat) : Int) 4 = (n : Int) := by decide +kernel
theorem byte_lt (x : UInt8) : ((x.toNat : Nat) : Int) < 256 := by have := x.toNat_lt; omega
local macro_rules | `(tactic| walk_at "subscriptTail Name BinOp bytes int") => `(tactic| (k_here; k_dflt (refine' byte_at ?h0 ?h1 ?hz ?_ ?hs ?ht; (case h0 => omega); (case h1 => omega); (case hz => omega); (case hs => with_unfolding_all rfl); (case ht => intro _; with_unfolding_all rfl)); intro _; (try dsimp only)))
local macro_rules | `(tactic| walk_at "setItem ref int") => `(tactic| (k_here; (refine' set_K ?F ?N ?U ?h0 ?h1 ?hz ?v0 ?v1 ?_; (case F => k_asm); (case N => k_asm); (case U => exact Upd.head (by assumption)); (case h0 => omega); (case h1 => omega); (case hz => omega); (case v0 => exact Int.natCast_nonneg _); (case v1 => exact byte_lt _)); intro h' F' N'; (try k_sweep)))
local macro_rules | `(tactic| walk_at "call type:bytes") => `(tactic| (k_here; (refine' call_bytes_ba ?o ?hz ?_; (case o => exact News.get (by k_asm) (by k_mem)); (case hz => omega)); intro _ _; (try dsimp only)))
local macro_rules | `(tactic| walk_at "pyIter ref") => `(tactic| (refine Halt.out ?_))
theorem bs_step {d b : Array UInt8} {n i k : Nat} (hd : d.size = 4 * n) (hi : i < n) (hk : k < 4) (hb : b.size = d.size) (h1 : ∀ p j, p < i → j < 4 → b[4 * p + j]? = d[4 * p + 3 - j]?) (h2 : ∀ j, j < k → b[4 * i + 3 - j]? = d[4 * i + j]?)
    (idx src : Int) (he : idx.toNat = 4 * i + 3 - k) (hs : src.toNat = 4 * i + k) :
    (b.setIfInBounds idx.toNat (((d.getD src.toNat 0).toNat : Int)).toNat.toUInt8).size = d.size ∧
    (∀ p j, p < i → j < 4 → (b.setIfInBounds idx.toNat (((d.getD src.toNat 0).toNat : Int)).toNat.toUInt8)[4 * p + j]? = d[4 * p + 3 - j]?) ∧
    (∀ j, j < k + 1 → (b.setIfInBounds idx.toNat (((d.getD src.toNat 0).toNat : Int)).toNat.toUInt8)[4 * i + 3 - j]? = d[4 * i + j]?) := by
  rw [he, hs]
  have hv : (((d.getD (4 * i + k) 0).toNat : Int)).toNat.toUInt8 = d.getD (4 * i + k) 0 := by simp
  rw [hv]
  refine ⟨by rw [Array.size_setIfInBounds]; exact hb, fun p j hp hj => ?_, fun j hj => ?_⟩
  · rw [Array.getElem?_setIfInBounds, if_neg (by omega)]
    exact h1 p j hp hj
  · rw [Array.getElem?_setIfInBounds]
    by_cases e : j = k
    · subst e
      have hlt : 4 * i + j < d.size := by omega
      rw [if_pos rfl, if_pos (by omega), Array.getD_eq_getD_getElem?, Array.getElem?_eq_getElem hlt]
      rfl
    · rw [if_neg (by omega)]
      exact h2 j (by omega)
theorem bsw_C (w : World) (mean : ExcName → Option Value) (mg mb : Str → Option Value) (d : Array UInt8) (n : Nat) (t t2 : Tok)
   {dp un : Nat} {gd : Option (List Code)} {cn : Str} {cs : Scope} {a : Addr} {ccd : Value} {cl : List (Str × Addr)} {outer : List Env} {A₀ : Around} {base h₀ : Heap} {L : Addr} {m : Str → Option Value} {s : Shared} {Q : Value → Shared → Prop}
   (B : Below A₀ base outer h₀) (F : Fr h₀ L s.heap m) (X : (hd.heap_39 w.params).In h₀) (T : Top hd.view_39 lawL mean mg mb h₀) (hk : cs.kind = .function) (hn0 : 0 < n) (hn : n ≤ 20) (hd : d.size = 4 * n) (hdp : dp + 10 < recursionLimit)
   (hret : ∀ (b : Array UInt8) (t : Tok) (h' : Heap) (tk' : Nat), b.size = d.size → (∀ p j, p < n → j < 4 → b[4 * p + j]? = d[4 * p + 3 - j]?) → Fr h₀ L h' m → s.heap.StaysIn h' → Q (.bytes b t) { s with heap := h', toks := tk' }) :
      wpC (model PySem.Challenge.rw_zo0021_01.row.prog w) (ktrTop dp un gd cn cs L a ccd cl outer) (call (.ref 122) [.bytes d t, .int 4 t2]) Q (fun _ _ => False) s := by
  w_top off
  revert X; k_fill; intro X
  refine wpC_call ?_
  k_dflt (refine' pure_defX ?k1 ?k2 ?k3 ?k5 ?kA ?kF ?kK ?k6 ?k7 ?k8 ?k9 ?kB ?_ ?c2 ?c3 ?c4 ?c5; (case kA => exact rfl); (case kF => exact rfl); (case kK => assumption); (case k1 => k_asm); (case k2 => k_asm); (case k3 => k_asm); (case k5 => k_asm); (case k6 => k_is); (case k7 => k_is); (case k8 => ktr_room); (case k9 => exact BindsTo.of_eq rfl); (case c5 => decide); (case kB => exact locs rfl); (case c2 => exact rfl); (case c3 => exact rfl); (case c4 => exact rfl); k_whole)
  intro g' L' h' hst FG' F' N' B' X' T'
  refine wpC_execs_cons (wpC_Assign_Name (wpC_Call ?_) (by rfl))
  k_steps
  refine wpC_callWith_type ?_
  k_steps
  refine wpC_bytearray (by k_asm) (by k_asm) (by omega) (by omega) ?_
  intro S h2 F2 N2 l2
  k_steps
  refine wpC_of ?_
  k_steps
  refine Halt.mk ?_
  refine iter_rg (n := n) (BsJ d t t2 S) rfl (by assumption) ?hsmall ?hnn (by assumption) (by assumption) ⟨_, rfl, ?_, ?_, ?_⟩ ?_ ?_
  case hsmall => rw [hd]; exact (rg4 n (by omega)).1
  case hnn => rw [hd]; exact (rg4 n (by omega)).2
  · rw [Array.size_replicate]; omega
  · intro p j hp; exact absurd hp (Nat.not_lt_zero _)
  · intro q hq; rcases List.mem_cons.mp hq with rfl | hq; rfl; rcases List.mem_cons.mp hq with rfl | hq; rfl; rcases List.mem_cons.mp hq with rfl | hq; rfl; cases hq
  · rintro i ti m₁ nx h3 tk3 own hi hadr hoff ⟨b, rfl, hbs, hbi, hm⟩ F₁ N₁
    replace F₁ := fr_names1 _ hm F₁
    simp only [List.cons_append, List.nil_append] at N₁
    k_steps
    refine Halt.mk ?_
    refine iter_rg (n := 4) (BsI d t t2 S own i ti) rfl (by assumption) ?hsmall ?hnn (by assumption) (by assumption) ⟨b, rfl, hbs, hbi, ?_, ?_⟩ ?_ ?_
    case hsmall => rfl
    case hnn => rfl
    · intro j hj; exact absurd hj (Nat.not_lt_zero _)
    · intro q hq; rcases List.mem_cons.mp hq with rfl | hq; rfl; rcases List.mem_cons.mp hq with rfl | hq; rfl; rcases List.mem_cons.mp hq with rfl | hq; rfl; rcases List.mem_cons.mp hq with rfl | hq; rfl; cases hq
    · rintro k tk m₂ nx2 h4 tk4 own2 hk hadr2 hoff2 ⟨b2, rfl, hbs2, hbi2, hbk2, hm2⟩ F₂ N₂
      replace F₂ := fr_names1 _ hm2 F₂
      simp only [List.cons_append] at N₂
      have hS : ∀ p ∈ own ++ own2, p.1 ≠ S := fun p hp => (List.mem_append.mp hp).elim (fun h => hoff p h S (by simp)) fun h => hoff2 p h S (by simp)
      k_steps
      all_goals (
        obtain ⟨e1, e2, e3⟩ := bs_step hd hi hk hbs2 hbi2 hbk2 (0 + (i : Int) * 4 + 4 - 1 - (0 + (k : Int) * 1)) (0 + (i : Int) * 4 + (0 + (k : Int) * 1)) (by omega) (by omega)
        refine InvEndN.intro (by assumption) (by assumption) ⟨_, rfl, e1, e2, e3, ?_⟩ rfl ?_ ?_
        · intro q hq; rcases List.mem_cons.mp hq with rfl | hq; rfl; rcases List.mem_cons.mp hq with rfl | hq; rfl; rcases List.mem_cons.mp hq with rfl | hq; rfl; rcases List.mem_cons.mp hq with rfl | hq; rfl; cases hq
        · intro p hp; rcases List.mem_cons.mp hp with rfl | hp; exact .head _; exact .tail _ (List.mem_append.mpr (.inl hp))
        · intro p hp; exact .tail _ (List.mem_append.mpr (.inr hp)))
    · rintro m₂ nx2 h4 tk4 ⟨b2, rfl, hbs2, hbi2, hbk2, hm2⟩ F₂ N₂
      replace F₂ := fr_names _ hm2 F₂
      k_steps
      all_goals (
        refine InvEndN.intro F₂ N₂ ⟨b2, rfl, hbs2, ?_, ?_⟩ rfl ?_ ?_
        · intro p j hp hj
          by_cases e : p = i
          · subst e
            have := hbk2 (3 - j) (by omega)
            rwa [show 4 * p + 3 - (3 - j) = 4 * p + j by omega, show 4 * p + (3 - j) = 4 * p + 3 - j by omega] at this
          · exact hbi2 p j (by omega) hj
        · intro q hq; rcases List.mem_cons.mp hq with rfl | hq; rfl; rcases List.mem_cons.mp hq with rfl | hq; rfl; rcases List.mem_cons.mp hq with rfl | hq; rfl; cases hq
        · intro p hp; rw [List.mem_singleton.mp hp]; exact .head _
        · intro p hp; exact .tail _ hp)
  · rintro m₁ nx h3 tk3 ⟨b, rfl, hbs, hbi, hm⟩ F₁ N₁
    replace F₁ := fr_names _ hm F₁
    k_steps
    all_goals (
      rename Fr g' _ _ _ => Fe
      exact hret b _ _ _ hbs hbi (by assumption) fun x o q => Fe.keep x o (hst x o q))
end Mine
end
section
open PySem PySem.W PyProof.Rows PySem.Calls
namespace Mine
set_option maxRecDepth 100000
set_option maxHeartbeats 8000000
def ddF (ns : List Int) : List Int := List.map (fun k' => k'.fmod (10 ^ Int.toNat 6)) (List.take 3 ns) ++ List.drop ((List.take 3 ns).length : Int).toNat [10, 2, 1]
theorem dd_len (ns : List Int) : (ddF ns).length = 3 := by
  unfold ddF
  simp only [List.length_append, List.length_map, List.length_drop, List.length_take, List.length_cons, List.length_nil]
  omega
theorem dd_nonneg (ns : List Int) : ∀ x ∈ ddF ns, 0 ≤ x := by
  intro x hx
  unfold ddF at hx
  rcases List.mem_append.mp hx with h | h
  · obtain ⟨y, _, rfl⟩ := List.mem_map.mp h
    exact Int.fmod_nonneg_of_pos _ (by decide)
  · have := List.mem_of_mem_drop h
    simp at this
    omega
local macro_rules | `(tactic| walk_at "subscriptTail Name Slice ref ref") => `(tactic| (k_here; k_dflt (refine' kmk_slice_ints ?F ?N ?l ?p ?q ?i ?m ?c ?_ ?s ?t ?z; (case F => k_asm); (case N => k_asm); (case l => kmk_list); (case p => kmk_part); (case q => kmk_part); (case i => exact (.cons _ _ (.cons _ _ (.cons _ _ .nil)))); (case m => exact kmk_from (.cons _ _ (.cons _ _ (.cons _ _ .nil))) (Int.natCast_nonneg _)); (case c => kmk_len); (case s => with_unfolding_all rfl); (case t => kmk_pure); (case z => kmk_size)); intro D' ws' h' F' N' l1 hI' hC' hL'; (try k_lt l1); (try k_sweep)))
theorem lawA (w : World) (s₁ : Shared) (mean : ExcName → Option Value) (mg mb : Str → Option Value) (KX : (hd.heap_39 w.params).In s₁.heap) (T : Top hd.view_39 lawL mean mg mb s₁.heap)
   (l : Addr) (vs : List Value) (ns : List Int) (hL : s₁.heap.IsList l vs.toArray) (hI : IntsAre vs ns) (hlen : ns.length ≤ 63) (R : Result → Shared → Prop)
   (next : ∀ (L : Addr) (h : Heap) (tk : Nat) (m : Str → Option Value) (D : Addr) (ws : List Value) (dd : List Int) (o1 o2 o3 : Obj), o1.data = .cell none → o2.data = .cell none → o3.data = .cell none → Fr s₁.heap L h m → m (Str.ofString "drawn") = some (.ref D) → News s₁.heap L h [(D, listOf ws.toArray 0), (L + 1 + 1 + 1, o3), (L + 1 + 1, o2), (L + 1, o1)] → IntsAre ws dd → dd.length = 3 → (∀ x ∈ dd, 0 ≤ x) → L + 1 + 1 + 1 < D →
      wpC (model PySem.Challenge.rw_zo0021_01.row.prog w) (callerA.deeper (envOfC (Str.ofString "law") lawScope L 139 (.ref 138))) (execs (lawBody.drop 1) (envOfC (Str.ofString "law") lawScope L 139 (.ref 138)))
        (fun fl s' => R (.ok (.ret (match fl with | .ret v => v | _ => .none))) s') (fun _ _ => False) { s₁ with heap := h, toks := tk }) :
   codeC (model PySem.Challenge.rw_zo0021_01.row.prog w) callerA (.call (.ref 139) ⟨[.ref l], []⟩) R s₁ := by
  w_top off
  revert KX; k_fill; intro KX
  have K0 := below_caller s₁.heap
  k_dflt (refine' enter_top ?k1 ?k2 ?k6 ?k7 ?k8 ?k9 ?kB ?kD ?_ ?c2 ?c3 ?c4; (case k1 => k_asm); (case k2 => k_asm); (case k6 => k_is); (case k7 => k_is); (case k8 => decide); (case k9 => exact BindsTo.of_eq rfl); (case kB => exact rfl); (case kD => decide +kernel); (case c2 => exact rfl); (case c3 => exact rfl); (case c4 => exact rfl))
  intro L' h' tk' cells' F' N' Y'
  k_cells Y'
  simp only [List.cons_append, List.nil_append] at N'
  refine (show wpC _ _ (execs (lawBody.take 1 ++ lawBody.drop 1) (envOfC (Str.ofString "law") lawScope L' 139 _)) _ _ _ from wpC_execs_app _ ?_)
  conv in List.take _ lawBody => arg 2; whnf
  simp only [List.take_succ_cons, List.take_zero]
  have eS : lawScope = lawScope := rfl
  conv at eS => rhs; whnf
  rw [eS] at next
  rw [eS]
  with_reducible show wpAny _ _ _ _ _ _
  k_fold
  k_steps
  refine' next _ _ _ _ _ _ _ _ _ _ ?d1 ?d2 ?d3 ?F ?_ ?N ?I ?_ ?_ ?_
  case N => (refine' kst_newsOf ?N1 ?N2; (case N1 => assumption); (case N2 => lcg_sub))
  case F => assumption
  case I => assumption
  case d1 => assumption
  case d2 => assumption
  case d3 => assumption
  · rfl
  · exact dd_len ns
  · exact dd_nonneg ns
  · rename (_ < _ ∧ _) => q9; obtain ⟨_, _, _, _, _, q, _⟩ := q9; omega
end Mine
end
section
open PySem PySem.W PyProof.Rows PySem.Calls
namespace Mine
set_option maxRecDepth 100000
set_option maxHeartbeats 8000000
def labA (q : Int) : Str := if q = 0 then Str.ofString "a" else if q = 1 then Str.ofString "Ba" else if q = 2 then Str.ofString "7" else Str.ofString "x"
def labB (q : Int) : Str := if q = 0 then Str.ofString "Ba" else if q = 1 then Str.ofString "a" else if q = 2 then Str.ofString "a7" else Str.ofString "y"
abbrev markF (d2 : Int) : Str := Txt.item (Str.ofString "|!#~") ((d2.fdiv 4).fmod 4)
abbrev smallF (d2 : Int) : Bool := (d2.fdiv 16).fmod 2 == 1
abbrev lawEnv (L : Addr) : Env := envOfC (Str.ofString "law") lawScope L 139 (.ref 138)
abbrev nmB (D LB H R : Addr) (sm : Bool) (mk : Str) (tm : Tok) : List (Str × Value) :=
  [(Str.ofString "row", .ref R), (Str.ofString "hosts", .ref H), (Str.ofString "small", .bool sm), (Str.ofString "mark", .str mk tm), (Str.ofString "labels", .ref LB), (Str.ofString "drawn", .ref D)]
theorem ne_cell {h₀ h : Heap} {L : Addr} {news : List (Addr × Obj)} {a b : Addr} {o : Obj} {x : Array Value} {c : Nat} {v : Option Value} (N : News h₀ L h news) (ha : (a, listOf x c) ∈ news) (hb : (b, o) ∈ news) (hc : o.data = .cell v) : b ≠ a := by
  rintro rfl
  have e := (N _ ha).1.symm.trans (N _ hb).1
  have e2 := congrArg Obj.data (Option.some.inj e)
  rw [hc] at e2
  cases e2
theorem lawB (w : World) (s₁ : Shared) (mean : ExcName → Option Value) (mg mb : Str → Option Value) (KX : (hd.heap_39 w.params).In s₁.heap) (T : Top hd.view_39 lawL mean mg mb s₁.heap)
   (L : Addr) (s : Shared) (m : Str → Option Value) (D : Addr) (d0 d1 d2 : Int) (t0 t1 t2 : Tok) (o1 o2 o3 : Obj) (c1 : o1.data = .cell none) (c2 : o2.data = .cell none) (c3 : o3.data = .cell none)
   (F : Fr s₁.heap L s.heap m) (hm : m (Str.ofString "drawn") = some (.ref D)) (N : News s₁.heap L s.heap [(D, listOf #[.int d0 t0, .int d1 t1, .int d2 t2] 0), (L + 1 + 1 + 1, o3), (L + 1 + 1, o2), (L + 1, o1)])
   (h0 : 0 ≤ d0) (h1 : 0 ≤ d1) (h2 : 0 ≤ d2) (lD : L + 1 + 1 + 1 < D) (Q : Flow → Shared → Prop)
   (next : ∀ (h : Heap) (tk : Nat) (m1 : Str → Option Value) (LB H R : Addr) (a b : Str) (ta tb tm : Tok) (on oc : Obj) (tn tc : Tok), a = labA (d2.fmod 4) → b = labB (d2.fmod 4) → on.data = .cell (some (.int (1 + d0.fmod 12) tn)) → oc.data = .cell (some (.int (d1.fmod 16) tc)) →
      Fr s₁.heap L h m1 → News s₁.heap L h [(R, listOf #[] 0), (H, listOf #[] 0), (LB, listOf #[.str a ta, .str b tb] 0), (L + 1 + 1 + 1, o3), (L + 1 + 1, oc), (L + 1, on)] → (∀ q ∈ nmB D LB H R (smallF d2) (markF d2) tm, m1 q.1 = some q.2) → @Ne Nat (L + 1 + 1 + 1) LB → @Ne Nat (L + 1 + 1) LB → @Ne Nat (L + 1) LB → @LT.lt Nat _ (L + 1 + 1 + 1) H → @LT.lt Nat _ LB H → @LT.lt Nat _ H R → Q .next { s with heap := h, toks := tk }) :
   wpAny (model PySem.Challenge.rw_zo0021_01.row.prog w) (callerA.deeper (lawEnv L)) (execs ((lawBody.drop 1).take 7) (lawEnv L)) Q (fun _ _ => False) s := by
  w_top off
  revert KX; k_fill; intro KX
  have K0 := below_caller s₁.heap
  replace F := fr_names [(Str.ofString "drawn", .ref D)] (fun q hq => by rw [List.mem_singleton.mp hq]; exact hm) F
  conv in List.take _ _ => arg 2; whnf
  simp only [List.take_succ_cons, List.take_zero]
  dsimp only [lawEnv]
  have eS : lawScope = lawScope := rfl
  conv at eS => rhs; whnf
  rw [eS]
  with_reducible show wpAny _ _ _ _ _ _
  (try k_fold)
  k_steps
  all_goals (
    refine' next _ _ _ _ _ _ _ _ _ _ _ _ _ _ _ ?ea ?eb ?d1 ?d2 ?F ?N ?q ?l1 ?l1b ?l1c ?l4 ?l2 ?l3
    case F => assumption
    case q => (refine List.forall_mem_cons.mpr ⟨?_, ?_⟩; exact rfl; refine List.forall_mem_cons.mpr ⟨?_, ?_⟩; exact rfl; refine List.forall_mem_cons.mpr ⟨?_, ?_⟩; exact rfl; refine List.forall_mem_cons.mpr ⟨?_, ?_⟩; exact rfl; refine List.forall_mem_cons.mpr ⟨?_, ?_⟩; exact rfl; refine List.forall_mem_cons.mpr ⟨?_, ?_⟩; exact rfl; exact List.forall_mem_nil _)
    case N => (refine' kst_newsOf ?N1 ?N2; (case N1 => assumption); (case N2 => lcg_sub))
    case d1 => assumption
    case d2 => assumption
    case ea => rename _ = (_ : Int) => kq; rw [kq]; rfl
    case eb => rename _ = (_ : Int) => kq; rw [kq]; rfl
    case l1 => exact ne_cell (by k_asm) (by k_mem) (by k_mem) c3
    case l1b => exact ne_cell (by k_asm) (by k_mem) (by k_mem) (by assumption)
    case l1c => exact ne_cell (by k_asm) (by k_mem) (by k_mem) (by assumption)
    case l4 => (simp only [List.cons_append, List.nil_append, AllLt, and_true] at *; omega)
    case l2 => (simp only [List.cons_append, List.nil_append, AllLt, and_true] at *; omega)
    case l3 => (simp only [List.cons_append, List.nil_append, AllLt, and_true] at *; omega))
end Mine
end
section
open PySem PySem.W PyProof.Rows PySem.Calls
namespace Mine
set_option maxRecDepth 100000
def rep3 (x : Str) : Str := ⟨(List.replicate 3 x.cps).foldl (· ++ ·) #[]⟩
section
variable {prog : Program} {w : World} {A : Around} {E : Value → Shared → Prop} {s : Shared} {x : Str} {t u : Tok}
theorem mul_three {Q : Value → Shared → Prop} (hx : x.length = 1) (h : Q (.str (rep3 x) s.toks) { s with toks := s.toks + 1 }) :
    wpAny (model prog w) A (binaryOp .Mult (.int 3 u) (.str x t)) Q E s := by
  refine lm_binaryOp_repeat_right (T := "str") (U := "int") (by decide) (fun s' => typeIs_int s' 3 u) (typeIs_str s x t) F.fills_int_mul noFill_str_mul F.slot_int_mul lm_noRepeat_int repeat_str F.slot_int_index.lookup
    (call_gives F.slot_int_mul (typeIs_int s 3 u) F.entry_int_mul (F.args_int_mul_2 _ _) (AutoIntG3.int___mul___int_str_0 3 u x t)
      ⟨rfl, typeIs_str s x t, call_gives F.slot_str_mul (typeIs_str s x t) F.entry_str_mul (F.args_str_mul_2 _ _) (gives_str_mul x 3 t u (by decide) (by rw [hx]; decide) (by rw [hx]; decide)) ?_⟩)
  have e : ((3 : Int) == 1 || x.length == 0) = false := by rw [hx]; rfl
  rw [if_neg (by decide), e, if_neg (by decide)]
  refine ⟨?_, h⟩
  have hx' : x.cps.size = 1 := hx
  show (((#[] ++ x.cps) ++ x.cps) ++ x.cps).size ≤ sizeLine
  rw [Array.size_append, Array.size_append, Array.size_append, hx', sizeLine_eq]
  decide
end
end Mine
end
section
open PySem PySem.W PyProof.Rows PySem.Calls
namespace Mine
set_option maxRecDepth 100000
set_option maxHeartbeats 8000000
def marks : List Str := [Str.ofString "|", Str.ofString "!", Str.ofString "#", Str.ofString "~"]
theorem marks_len : ∀ x ∈ marks, x.length = 1 := by decide +kernel
def numT (n : Int) : Str := Str.ofString (toString n)
def respF (mk : Str) (n : Int) : Str := (((Str.ofString "229 told (" ++ rep3 mk) ++ numT n) ++ mk) ++ Str.ofString ")"
def rightF (n : Int) : Int := if n < 10 then 15 else 16
def okP (mk : Str) (n : Int) : Bool :=
  decide ((respF mk n).length ≤ 100) && ((Txt.slice (respF mk n) none (some 3) != Str.ofString "229") == false) && decide (Txt.find (respF mk n) (Str.ofString "(") = 9) &&
  decide (Txt.find3 (respF mk n) (Str.ofString ")") (9 + 1) = rightF n) && decide (10 < rightF n) && decide (rightF n < (respF mk n).length) && decide (Txt.item (respF mk n) (9 + 1) = mk) && decide (Txt.item (respF mk n) (rightF n - 1) = mk) &&
  decide (Txt.split (Txt.slice (respF mk n) (some (9 + 1)) (some (rightF n))) mk = [Str.empty, Str.empty, Str.empty, numT n, Str.empty]) && decide (mk.length = 1) && decide (PySem.intText? (numT n) = some n) && decide ((numT n).length ≤ 2)
theorem okP_all : (marks.all fun mk => (List.range 16).all fun n => okP mk (n : Int)) = true := by decide +kernel
theorem okP_at {mk : Str} {n : Int} (h : mk ∈ marks) (h0 : 0 ≤ n) (h1 : n < 16) : okP mk n = true := by
  have := List.all_eq_true.mp (List.all_eq_true.mp okP_all mk h) n.toNat (List.mem_range.mpr (by omega))
  rwa [Int.toNat_of_nonneg h0] at this
theorem p229_ok {mk : Str} {n : Int} (h : mk ∈ marks) (h0 : 0 ≤ n) (h1 : n < 16) : P229 (respF mk n) (rightF n) mk Str.empty Str.empty Str.empty (numT n) Str.empty n := by
  have e := okP_at h h0 h1
  unfold okP at e
  simp only [Bool.and_eq_true, decide_eq_true_eq, beq_iff_eq] at e
  obtain ⟨⟨⟨⟨⟨⟨⟨⟨⟨⟨⟨e1, e2⟩, e3⟩, e4⟩, e5⟩, e6⟩, e7⟩, e8⟩, e9⟩, e10⟩, e11⟩, e12⟩ := e
  exact ⟨e1, e2, e3, e4, e5, e6, e7, e8, e9, by rw [e10]; rfl, e11, by omega⟩
theorem num_len {n : Int} (h0 : 0 ≤ n) (h1 : n < 16) : (numT n).length ≤ 2 := by
  have e := okP_at (mk := Str.ofString "|") (.head _) h0 h1
  unfold okP at e
  simp only [Bool.and_eq_true, decide_eq_true_eq, beq_iff_eq] at e
  exact e.2
theorem len_app (x y : Str) : (x ++ y).length = x.length + y.length := Array.size_append ..
theorem rep3_len {x : Str} (hx : x.length = 1) : (rep3 x).length = 3 := by
  have hx' : x.cps.size = 1 := hx
  show (((#[] ++ x.cps) ++ x.cps) ++ x.cps).size = 3
  rw [Array.size_append, Array.size_append, Array.size_append, hx']
  rfl
end Mine
end
section
open PySem PySem.W PyProof.Rows PySem.Calls
namespace Mine
set_option maxRecDepth 100000
set_option maxHeartbeats 8000000
local macro_rules | `(tactic| walk_at "pyIter ref") => `(tactic| (refine Halt.out ?_))
local macro_rules | `(tactic| walk_at "exec For Name BinOp cons nil") => `(tactic| (k_here; (rename Fr _ _ _ _ => lF'); (with_unfolding_all refine' For_invVF lF' ?k1 ?k2 ?_; (case k1 => exact rfl); (case k2 => exact rfl); k_whole)))
def bitsF (p : Int) : List Int := [p.fdiv 8, (p.fdiv 4).fmod 2, (p.fdiv 2).fmod 2, p.fmod 2]
def J3 (G : Addr) (us : List Value) (ns : List Int) (D LB H R L : Addr) (a b : Str) (ta tb tm : Tok) (on oc o3 : Obj) (sm : Bool) (mk : Str) (i : Nat) (m : Str → Option Value) (nx : List (Addr × Obj)) : Prop :=
  ∃ (hs rs : List Value) (c d : Nat), nx = [(G, listOf us.toArray 0), (R, listOf rs.toArray d), (H, listOf hs.toArray c), (LB, listOf #[.str a ta, .str b tb] 0), (L + 1 + 1 + 1, o3), (L + 1 + 1, oc), (L + 1, on)] ∧
    StrsAre hs ((ns.take i).map (hostF a b)) ∧ IntsAre rs ((ns.take i).flatMap bitsF) ∧ ∀ q ∈ nmB D LB H R sm mk tm, m q.1 = some q.2
theorem ns_at {count cut n : Int} {i : Nat} (h1 : 1 ≤ count) (h2 : count ≤ 12) (h3 : 0 ≤ cut) (h4 : cut < 16) (h : (rangeKs 0 (count - 0).toNat ++ [cut])[i]? = some n) : i ≤ 12 ∧ i ≤ (rangeKs 0 (count - 0).toNat ++ [cut]).length ∧ 0 ≤ n ∧ n < 16 := by
  have hl := (List.getElem?_eq_some_iff.mp h).1
  have hm := List.mem_of_getElem? h
  have hz : (rangeKs 0 (count - 0).toNat ++ [cut]).length = (count - 0).toNat + 1 := by rw [List.length_append, rangeKs_length]; rfl
  rw [hz] at hl
  refine ⟨by omega, by omega, ?_⟩
  rcases List.mem_append.mp hm with hm | hm
  · have := mem_rangeKs hm
    omega
  · rw [List.mem_singleton.mp hm]
    exact ⟨h3, h4⟩
theorem bits_len (l : List Int) : (l.flatMap bitsF).length = 4 * l.length := by
  induction l with
  | nil => rfl
  | cons a r ih => rw [List.flatMap_cons, List.length_append, ih, List.length_cons]; show 4 + _ = _; omega
theorem take_next {α : Type} {l : List α} {i : Nat} {n : α} (h : l[i]? = some n) : l.take (i + 1) = l.take i ++ [n] := by rw [List.take_add_one, h]; rfl
local macro_rules | `(tactic| walk_at "binaryOp Mult int str") => `(tactic| (k_here; (refine' mul_three ?hx ?_; (case hx => exact marks_len _ (by assumption))); (try dsimp only)))
local macro_rules | `(tactic| walk_at "binaryOp Add str str") => `(tactic| (k_here; (refine add_str ?_ ?sz; (case sz => (rw [sizeLine_eq]; simp only [len_app]; omega))); intro _ _; (try dsimp only)))
local macro_rules | `(tactic| k_all) => `(tactic| assumption)
theorem append_L {prog : Program} {w : World} {A : Around} {E : Value → Shared → Prop} {s : Shared} {h₀ : Heap} {L D : Addr} {m : Str → Option Value} {news news' : List (Addr × Obj)} {us : List Value} {c : Nat} {x : Value} {Q : Value → Shared → Prop} (F : Fr h₀ L s.heap m) (N : News h₀ L s.heap news)
    (U : Upd D (listOf us.toArray c) (listOf (us ++ [x]).toArray (c + 1)) news news') (hz : us.length ≤ 1000) (h : ∀ h', Fr h₀ L h' m → News h₀ L h' news' → Q .none { s with heap := h' }) : wpAny (model prog w) A (call (.builtin "list.append") [.ref D, x]) Q E s := by
  have e : us.toArray.push x = (us ++ [x]).toArray := by simp
  exact append_K F N (by rw [e]; exact U) h (by rw [sizeLine_eq, List.size_toArray]; omega)
theorem extend_L {prog : Program} {w : World} {A : Around} {E : Value → Shared → Prop} {s : Shared} {h₀ : Heap} {L D b : Addr} {m : Str → Option Value} {news news' : List (Addr × Obj)} {us : List Value} {x0 x1 x2 x3 : Value} {c c2 : Nat} {Q : Value → Shared → Prop} (F : Fr h₀ L s.heap m) (N : News h₀ L s.heap news)
    (hb : (b, listOf #[x0, x1, x2, x3] c2) ∈ news) (U : Upd D (listOf us.toArray c) (listOf (us ++ [x0, x1, x2, x3]).toArray (c + 1)) news news') (hz : us.length ≤ 1000) (h : ∀ h', Fr h₀ L h' m → News h₀ L h' news' → Q .none { s with heap := h' }) :
    wpAny (model prog w) A (call (.builtin "list.extend") [.ref D, .ref b]) Q E s := by
  refine kl_extend F N hb (l := us ++ [x0, x1, x2, x3]) (by simp) (by simp) U ?_ (by rw [sizeLine_eq]; simp; omega) (by rw [sizeLine_eq]; simp; omega) h
  intro hh
  simp [Builtin.List.listTooLong, sizeLine_eq] at hh
  omega
local macro_rules | `(tactic| walk_at "call builtin:list.append") => `(tactic| (k_here; k_dflt (refine' append_L ?F ?N ?U ?z ?_; (case F => k_asm); (case N => k_asm); (case U => k_upd); (case z => omega)); intro h' F' N'; (try k_sweep)))
local macro_rules | `(tactic| walk_at "call builtin:list.extend") => `(tactic| (k_here; k_dflt (refine' extend_L ?F ?N ?b ?U ?z ?_; (case F => k_asm); (case N => k_asm); (case b => k_mem); (case U => k_upd); (case z => omega)); intro h' F' N'; (try k_sweep)))
local macro_rules | `(tactic| walk_at "call ref") => `(tactic| (k_here; k_dflt (refine' useP (host_C _ _ _ _ _ _ _ _ _ _ _) ?k1 ?k2 ?k3 ?k4 ?k5 ?kK ?kp ?kd ?ku ?_; (case k1 => k_asm); (case k2 => k_asm); (case k3 => k_asm); (case k4 => k_asm); (case k5 => k_asm); (case kK => first | exact rfl | assumption); (case kp => refine And.intro ?z1 ?z2; (case z2 => exact News.get (by k_asm) (by k_mem)); (case z1 => exact ⟨by omega, by omega, by assumption, by assumption⟩)); (case kd => ktr_room); (case ku => ktr_units); intro t9 h9 tk9 F9 N9; (try dsimp only); (try k_fold))))
local macro_rules | `(tactic| walk_at "call ref") => `(tactic| (k_here; k_dflt (refine' useT (p229_C _ _ _ _ _ _ _ _ _ _ _ _ _ _ _ _ _ _ _) ?k1 ?k2 ?k3 ?k4 ?k5 ?kK ?kp ?kd ?ku ?_; (case k4 => k_asm); (case k1 => k_asm); (case k2 => k_asm); (case k3 => k_asm); (case k5 => k_asm); (case kK => first | exact rfl | assumption); (case kp => exact p229_ok (by assumption) (by assumption) (by assumption)); (case kd => ktr_room); (case ku => ktr_units); intro a9 t91 t92 t93 h9 tk9 F9 N9 l1; (try dsimp only); (try k_lt l1); (try k_fold))))
theorem lawC (w : World) (s₁ : Shared) (mean : ExcName → Option Value) (mg mb : Str → Option Value) (KX : (hd.heap_39 w.params).In s₁.heap) (T : Top hd.view_39 lawL mean mg mb s₁.heap)
   (L : Addr) (s : Shared) (m : Str → Option Value) (D LB H R : Addr) (a b : Str) (ta tb tm : Tok) (on oc o3 : Obj) (tn tc : Tok) (count cut : Int) (sm : Bool) (mk : Str) (hmk : mk ∈ marks) (qn : on.data = .cell (some (.int count tn))) (qc : oc.data = .cell (some (.int cut tc))) (q3 : o3.data = .cell none)
   (h1 : 1 ≤ count) (h2 : count ≤ 12) (h3 : 0 ≤ cut) (h4 : cut < 16) (ea : a.length ≤ 10) (eb : b.length ≤ 10)
   (F : Fr s₁.heap L s.heap m) (hm : ∀ q ∈ nmB D LB H R sm mk tm, m q.1 = some q.2) (N : News s₁.heap L s.heap [(R, listOf #[] 0), (H, listOf #[] 0), (LB, listOf #[.str a ta, .str b tb] 0), (L + 1 + 1 + 1, o3), (L + 1 + 1, oc), (L + 1, on)])
   (l1 : @Ne Nat (L + 1 + 1 + 1) LB) (l1b : @Ne Nat (L + 1 + 1) LB) (l1c : @Ne Nat (L + 1) LB) (l4 : @LT.lt Nat _ (L + 1 + 1 + 1) H) (l2 : @LT.lt Nat _ LB H) (l3 : @LT.lt Nat _ H R) (Q : Flow → Shared → Prop)
   (next : ∀ (h : Heap) (tk : Nat) (m1 : Str → Option Value) (hs rs : List Value) (c d : Nat), Fr s₁.heap L h m1 → News s₁.heap L h [(R, listOf rs.toArray d), (H, listOf hs.toArray c), (LB, listOf #[.str a ta, .str b tb] 0), (L + 1 + 1 + 1, o3), (L + 1 + 1, oc), (L + 1, on)] →
      StrsAre hs ((rangeKs 0 (count - 0).toNat ++ [cut]).map (hostF a b)) → IntsAre rs ((rangeKs 0 (count - 0).toNat ++ [cut]).flatMap bitsF) → (∀ q ∈ nmB D LB H R sm mk tm, m1 q.1 = some q.2) → Q .next { s with heap := h, toks := tk }) :
   wpAny (model PySem.Challenge.rw_zo0021_01.row.prog w) (callerA.deeper (lawEnv L)) (execs ((lawBody.drop 8).take 1) (lawEnv L)) Q (fun _ _ => False) s := by
  w_top off
  revert KX; k_fill; intro KX
  have K0 := below_caller s₁.heap
  replace F := fr_names _ hm F
  conv in List.take _ _ => arg 2; whnf
  simp only [List.take_succ_cons, List.take_zero]
  dsimp only [lawEnv]
  have eS : lawScope = lawScope := rfl
  conv at eS => rhs; whnf
  rw [eS]
  clear eS
  with_reducible show wpAny _ _ _ _ _ _
  (try k_fold)
  k_steps
  refine Halt.mk ?_
  rename_i us _ _ N' hI _
  rename Fr _ _ _ _ => Fe
  refine iter_invNL (nn := 0) (J3 _ us (rangeKs 0 (count - 0).toNat ++ [cut]) D LB H R L a b ta tb tm on oc o3 sm mk) rfl (.head _) hI Fe (kst_newsOf N' ?_) ⟨[], [], 0, 0, rfl, .nil, .nil, ?_⟩ ?_ ?_
  · lcg_sub
  · rw [m_eq hm]; exact hm
  · rintro i n ti m₁ nx h3' tk3 own hin hadr hoff hmem ⟨hs, rs, c, d, rfl, hhs, hrs, hm1⟩ F₁ N₁
    replace F₁ := fr_names1 _ hm1 F₁
    simp only [List.cons_append, List.nil_append] at N₁
    obtain ⟨hi, hlt, n0, n1⟩ := ns_at h1 h2 h3 h4 hin
    clear N'
    have hoR : ∀ p ∈ own, p.1 ≠ R := fun p hp => hoff p hp R (by simp)
    have hoH : ∀ p ∈ own, p.1 ≠ H := fun p hp => hoff p hp H (by simp)
    have hlh : hs.length = i := by rw [hhs.len_eq, List.length_map, List.length_take, Nat.min_eq_left hlt]
    have hlr : rs.length ≤ 4 * i := by rw [hrs.length, bits_len, List.length_take, Nat.min_eq_left hlt]; exact Nat.le_refl _
    have hz0 : (Str.ofString "229 told (").length = 10 := by decide +kernel
    have hz1 := rep3_len (marks_len _ hmk)
    have hz2 := marks_len _ hmk
    have hz3 := num_len n0 n1
    have hz4 : (Str.ofString ")").length = 1 := by decide +kernel
    unfold numT at hz3
    k_steps
    rename Fr _ _ _ _ => F9
    rename News _ _ _ _ => N9
    refine end_drop 3 (nx := [_, _, _, _, _, _, _]) F9 N9 rfl ⟨.head _, _, _, _, _, rfl, ?_, ?_, ?_⟩ rfl
    · rw [take_next hin, List.map_append]; exact hhs.append' (.cons _ _ .nil)
    · rw [take_next hin, List.flatMap_append]; exact hrs.append (.cons _ _ (.cons _ _ (.cons _ _ (.cons _ _ .nil))))
    · refine List.forall_mem_cons.mpr ⟨?_, ?_⟩; exact rfl; refine List.forall_mem_cons.mpr ⟨?_, ?_⟩; exact rfl; refine List.forall_mem_cons.mpr ⟨?_, ?_⟩; exact rfl; refine List.forall_mem_cons.mpr ⟨?_, ?_⟩; exact rfl; refine List.forall_mem_cons.mpr ⟨?_, ?_⟩; exact rfl; refine List.forall_mem_cons.mpr ⟨?_, ?_⟩; exact rfl; exact List.forall_mem_nil _
  · rintro m₁ nx h3' tk3 hmem ⟨hs, rs, c, d, rfl, hhs, hrs, hm1⟩ F₁ N₁
    clear N'
    rw [List.take_length] at hhs hrs
    k_steps
    all_goals (exact next _ _ _ _ _ _ _ F₁ (fun p hp => N₁ p (.tail _ hp)) hhs hrs hm1)
end Mine
end
section
open PySem PySem.W PyProof.Rows PySem.Calls
namespace Mine
set_option maxRecDepth 100000
set_option maxHeartbeats 8000000
theorem bits_in {ps : List Int} (h : ∀ p ∈ ps, 0 ≤ p ∧ p < 16) : ∀ x ∈ ps.flatMap bitsF, 0 ≤ x ∧ x < 2 := by
  intro x hx
  obtain ⟨p, hp, hx⟩ := List.mem_flatMap.mp hx
  have := h p hp
  simp only [bitsF, List.mem_cons, List.not_mem_nil, or_false] at hx
  rcases hx with rfl | rfl | rfl | rfl
  · have h8 : p.fdiv 8 = p / 8 := Int.fdiv_eq_ediv_of_nonneg _ (by decide)
    rw [h8]; omega
  · exact ⟨Int.fmod_nonneg_of_pos _ (by decide), Int.fmod_lt_of_pos _ (by decide)⟩
  · exact ⟨Int.fmod_nonneg_of_pos _ (by decide), Int.fmod_lt_of_pos _ (by decide)⟩
  · exact ⟨Int.fmod_nonneg_of_pos _ (by decide), Int.fmod_lt_of_pos _ (by decide)⟩
theorem bits_at : ∀ {ps : List Int} {p : Nat} {x : Int}, ps[p]? = some x → ∀ k, k < 4 → (ps.flatMap bitsF)[4 * p + k]? = some ((bitsF x).getD k 0)
  | a :: r, 0, x, h, k, hk => by
    cases h
    rw [List.flatMap_cons, Nat.mul_zero, Nat.zero_add, List.getElem?_append_left (by show k < 4; exact hk), List.getD_eq_getElem?_getD, List.getElem?_eq_getElem (by show k < 4; exact hk)]
    rfl
  | a :: r, p + 1, x, h, k, hk => by
    rw [List.flatMap_cons, List.getElem?_append_right (by show 4 ≤ _; omega), show 4 * (p + 1) + k - (bitsF a).length = 4 * p + k by show 4 * (p + 1) + k - 4 = _; omega]
    exact bits_at (by simpa using h) k hk
/-- the octets turned round -/
def Octs (b : Array UInt8) (ps : List Int) : Prop := b.size = 4 * ps.length ∧ ∀ p x, ps[p]? = some x → ∀ j, j < 4 → b[4 * p + j]? = some (((bitsF x).getD (3 - j) 0).toNat.toUInt8)
theorem lawD (w : World) (s₁ : Shared) (mean : ExcName → Option Value) (mg mb : Str → Option Value) (KX : (hd.heap_39 w.params).In s₁.heap) (T : Top hd.view_39 lawL mean mg mb s₁.heap)
   (L : Addr) (s : Shared) (m : Str → Option Value) (D LB H R : Addr) (tm : Tok) (sm : Bool) (mk : Str) (rest : List (Addr × Obj)) (rs : List Value) (d n : Nat) (ps : List Int) (hp : ps.length = n) (hn0 : 0 < n) (hn : n ≤ 13)
   (hrs : IntsAre rs (ps.flatMap bitsF)) (hps : ∀ p ∈ ps, 0 ≤ p ∧ p < 16)
   (F : Fr s₁.heap L s.heap m) (hm : ∀ q ∈ nmB D LB H R sm mk tm, m q.1 = some q.2) (N : News s₁.heap L s.heap ((R, listOf rs.toArray d) :: rest)) (Q : Flow → Shared → Prop)
   (next : ∀ (h : Heap) (tk : Nat) (m1 : Str → Option Value) (b : Array UInt8) (tb : Tok), Fr s₁.heap L h m1 → News s₁.heap L h ((R, listOf rs.toArray d) :: rest) → Octs b ps → (∀ q ∈ (Str.ofString "turned", Value.bytes b tb) :: nmB D LB H R sm mk tm, m1 q.1 = some q.2) →
      wpC (model PySem.Challenge.rw_zo0021_01.row.prog w) (callerA.deeper (lawEnv L)) (execs (lawBody.drop 10) (lawEnv L)) Q (fun _ _ => False) { s with heap := h, toks := tk }) :
   wpC (model PySem.Challenge.rw_zo0021_01.row.prog w) (callerA.deeper (lawEnv L)) (execs (lawBody.drop 9) (lawEnv L)) Q (fun _ _ => False) s := by
  w_top off
  revert KX; k_fill; intro KX
  have K0 := below_caller s₁.heap
  replace F := fr_names _ hm F
  conv in List.drop 9 lawBody => whnf
  refine wpC_execs_cons (wpC_Assign_Name (wpC_Call ?_) (by rfl))
  dsimp only [lawEnv]
  have eS : lawScope = lawScope := rfl
  conv at eS => rhs; whnf
  rw [eS]
  with_reducible show wpAny _ _ _ _ _ _
  (try k_fold)
  k_steps
  refine wpC_callWith (K := hd.heap_39 w.params) ?k ?_
  case k => first | k_is | rfl
  k_steps
  have hlr : rs.length = 4 * n := by rw [hrs.length, bits_len, hp]
  refine bytes_K (by k_asm) (by k_asm) (News.isList (by k_asm) (.head _)) hrs (fun x hx => ⟨(bits_in hps x hx).1, Int.lt_trans (bits_in hps x hx).2 (by decide)⟩) ?_ ?_ ?_
  · rw [sizeLine_eq]; omega
  · rfl
  intro h1 t1 k1 F1 N1 _
  clear F N
  k_steps
  refine bsw_C w mean mg mb _ n _ _ K0 F1 KX T rfl hn0 (by omega) ?sz ?dp ?_
  case sz => rw [List.size_toArray, List.length_map, bits_len, hp]
  case dp => ktr_room
  intro b t2 h2 k2 hb hsw F2 st
  have N2 := N1.grown st
  clear F1 N1
  k_steps
  refine next _ _ _ b t2 (by assumption) (by assumption) ⟨by rw [hb, List.size_toArray, List.length_map, bits_len], fun p x hx j hj => ?_⟩ ?_
  · have hlt : p < n := by rw [← hp]; exact (List.getElem?_eq_some_iff.mp hx).1
    rw [hsw p j hlt hj, List.getElem?_toArray, List.getElem?_map, show 4 * p + 3 - j = 4 * p + (3 - j) by omega, bits_at hx _ (by omega)]
    rfl
  · refine List.forall_mem_cons.mpr ⟨?_, ?_⟩; exact rfl; refine List.forall_mem_cons.mpr ⟨?_, ?_⟩; exact rfl; refine List.forall_mem_cons.mpr ⟨?_, ?_⟩; exact rfl; refine List.forall_mem_cons.mpr ⟨?_, ?_⟩; exact rfl; refine List.forall_mem_cons.mpr ⟨?_, ?_⟩; exact rfl; refine List.forall_mem_cons.mpr ⟨?_, ?_⟩; exact rfl; refine List.forall_mem_cons.mpr ⟨?_, ?_⟩; exact rfl; exact List.forall_mem_nil _
end Mine
end
section
open PySem PySem.W PyProof.Rows PySem.Calls
namespace Mine
set_option maxRecDepth 100000
set_option maxHeartbeats 8000000
theorem take_four {α : Type} {l : List α} {k : Nat} {a b c d : α} (h0 : l[k]? = some a) (h1 : l[k + 1]? = some b) (h2 : l[k + 2]? = some c) (h3 : l[k + 3]? = some d) : (l.drop k).take 4 = [a, b, c, d] := by
  have e : ∀ {k : Nat} {x : α}, l[k]? = some x → l.drop k = x :: l.drop (k + 1) := fun {k x} h => by
    obtain ⟨hl, he⟩ := List.getElem?_eq_some_iff.mp h
    rw [← he]; exact List.drop_eq_getElem_cons hl
  rw [e h0, e h1, e h2, e h3]
  rfl
theorem bit_back {v : Int} (h0 : 0 ≤ v) (h1 : v < 256) : ((v.toNat.toUInt8).toNat : Int) = v := by
  have : v.toNat < 256 := by omega
  rw [show (v.toNat.toUInt8).toNat = v.toNat % 256 from rfl, Nat.mod_eq_of_lt this]
  omega
theorem bits_small {x : Int} (h0 : 0 ≤ x) (h1 : x < 16) (k : Nat) : 0 ≤ (bitsF x).getD k 0 ∧ (bitsF x).getD k 0 < 256 := by
  have h := bits_in (ps := [x]) (fun p hp => by rw [List.mem_singleton.mp hp]; exact ⟨h0, h1⟩)
  have e : [x].flatMap bitsF = bitsF x := by simp
  rw [e] at h
  rw [List.getD_eq_getElem?_getD]
  rcases hk : (bitsF x)[k]? with _ | v
  · exact ⟨by decide, by decide⟩
  · have := h v (List.mem_of_getElem? hk)
    exact ⟨this.1, Int.lt_trans this.2 (by decide)⟩
theorem octs_four {b : Array UInt8} {ps : List Int} (hb : Octs b ps) {i : Nat} {x : Int} (hx : ps[i]? = some x) (h0 : 0 ≤ x) (h1 : x < 16) {lo hi : Int} (hlo : lo = 4 * (i : Int)) (hhi : hi = 4 * (i : Int) + 4) :
    ((KBw.bInts b).drop ((some lo).elim 0 (clipAt (KBw.bInts b).length))).take ((some hi).elim (KBw.bInts b).length (clipAt (KBw.bInts b).length) - (some lo).elim 0 (clipAt (KBw.bInts b).length)) = [x.fmod 2, (x.fdiv 2).fmod 2, (x.fdiv 4).fmod 2, x.fdiv 8] := by
  have hlt : i < ps.length := (List.getElem?_eq_some_iff.mp hx).1
  have hsz := hb.1
  have elo : clipAt (KBw.bInts b).length lo = 4 * i := by
    rw [hlo, show (4 * (i : Int)) = ((4 * i : Nat) : Int) by omega, clipAt_nat, KBw.ints_length]
    omega
  have ehi : clipAt (KBw.bInts b).length hi = 4 * i + 4 := by
    rw [hhi, show (4 * (i : Int) + 4) = ((4 * i + 4 : Nat) : Int) by omega, clipAt_nat, KBw.ints_length]
    omega
  show ((KBw.bInts b).drop (clipAt (KBw.bInts b).length lo)).take (clipAt (KBw.bInts b).length hi - clipAt (KBw.bInts b).length lo) = _
  rw [elo, ehi, show 4 * i + 4 - 4 * i = 4 by omega]
  have at' : ∀ j, j < 4 → (KBw.bInts b)[4 * i + j]? = some ((bitsF x).getD (3 - j) 0) := fun j hj => by
    have := KBw.ints_get (hb.2 i x hx j hj)
    rw [this, bit_back (bits_small h0 h1 _).1 (bits_small h0 h1 _).2]
  exact take_four (at' 0 (by decide)) (at' 1 (by decide)) (at' 2 (by decide)) (at' 3 (by decide))
end Mine
end
section
open PySem PySem.W PyProof.Rows PySem.Calls
namespace Mine
set_option maxRecDepth 100000
set_option maxHeartbeats 8000000
def sixteenth (v : Int) : UInt64 := Float64.ofFrac (decide (v < 0) != decide ((16 : Int) < 0)) v.natAbs (Int.natAbs 16)
abbrev half : UInt64 := 4602678819172646912
def hue16 (v : Int) : UInt64 := Float64.mul (Float64.ofInt 16) (sixteenth v)
abbrev c3 (v : Int) : UInt64 × UInt64 × UInt64 := hsvF (sixteenth v)
def okV (v : Int) : Bool :=
  !(Float64.isInf (sixteenth v)) && !(Float64.isNaN (Float64.mul (sixteenth v) six)) && !(Float64.isInf (Float64.mul (sixteenth v) six)) && decide ((hI (sixteenth v)).natAbs < 2 ^ 1024 - 2 ^ 970) &&
  decide (best_max (c3 v).1 (c3 v).2.1 (c3 v).2.2 = one) && decide (best_min (c3 v).1 (c3 v).2.1 (c3 v).2.2 = 0) && decide (rgbF (c3 v).1 (c3 v).2.1 (c3 v).2.2 = (sixteenth v, half, one)) &&
  !(Float64.isNaN (hue16 v)) && !(Float64.isInf (hue16 v)) && decide (Flt.toInt Float64.truncOf (hue16 v) = v) && (Float64.cmp (sixteenth v) (sixteenth v) == some Ordering.eq)
theorem okV_all : (List.range 16).all (fun n => okV (n : Int)) = true := by decide +kernel
theorem okV_at {v : Int} (h0 : 0 ≤ v) (h1 : v < 16) : okV v = true := by
  have := List.all_eq_true.mp okV_all v.toNat (List.mem_range.mpr (by omega))
  rwa [Int.toNat_of_nonneg h0] at this
structure OkV (v : Int) : Prop where
  fin : Float64.isInf (sixteenth v) = false
  ok : hsvOk (sixteenth v)
  mx : best_max (c3 v).1 (c3 v).2.1 (c3 v).2.2 = one
  mn : best_min (c3 v).1 (c3 v).2.1 (c3 v).2.2 = 0
  hls : rgbF (c3 v).1 (c3 v).2.1 (c3 v).2.2 = (sixteenth v, half, one)
  nan : Float64.isNaN (hue16 v) = false
  inf : Float64.isInf (hue16 v) = false
  back : Flt.toInt Float64.truncOf (hue16 v) = v
  same : Float64.cmp (sixteenth v) (sixteenth v) = some Ordering.eq
theorem okV_of {v : Int} (h0 : 0 ≤ v) (h1 : v < 16) : OkV v := by
  have e := okV_at h0 h1
  unfold okV at e
  simp only [Bool.and_eq_true, decide_eq_true_eq, beq_iff_eq, Bool.not_eq_true'] at e
  obtain ⟨⟨⟨⟨⟨⟨⟨⟨⟨⟨e1, e2⟩, e3⟩, e4⟩, e5⟩, e6⟩, e7⟩, e8⟩, e9⟩, e10⟩, e11⟩ := e
  exact ⟨e1, ⟨e2, e3, e4⟩, e5, e6, e7, e8, e9, e10, e11⟩
end Mine
end
section
open PySem PySem.W PyProof.Rows PySem.Calls
namespace Mine
set_option maxRecDepth 100000
set_option maxHeartbeats 8000000
theorem strKeys_of {es : Array DictEntry} (h : es.toList.all (fun e => match e.key with | .str _ _ => true | _ => false) = true) : StrKeys es := fun e he => by
  have := List.all_eq_true.mp h e (Array.mem_toList_iff.mpr he)
  revert this
  split
  · rename_i n t hk; intro _; exact ⟨n, t, hk⟩
  · intro h; cases h
theorem booked {P : Params} {h : Heap} (X : (hd.heap_39 P).In h) : NoneBooked h := by
  refine ⟨_, ⟨_, _, _, X 2 _ rfl, rfl, ?_, fun _ => rfl⟩, ?_⟩
  · exact strKeys_of (by with_unfolding_all rfl)
  · with_unfolding_all rfl
theorem isSame_float {M : Model} {A : Around} {E : Value → Shared → Prop} {s : Shared} {y z : UInt64} {u v : Tok} {Q : Bool → Shared → Prop}
    (h0 : (u == 0 || v == 0) = false) (hb : NoneBooked s.heap) (hq : ∀ b, Q b s) : wpAny M A (isSame (.float y u) (.float z v)) Q E s := by
  show wpAny M A (isSame.created (y == z && !Float64.isNaN y) u v) Q E s
  unfold isSame.created
  refine wpAny_ite ?_
  split
  · rename_i h; rw [h0] at h; exact absurd h Bool.false_ne_true
  refine wpAny_ite ?_
  split
  · exact wpAny_pure (hq _)
  refine wpAny_ite ?_
  split
  · exact wpAny_pure (hq _)
  refine wpAny_bind (wpAny_sharingNotTold_none hb ?_)
  first | rw [if_neg Bool.false_ne_true] | simp only [Bool.false_eq_true, if_false]
  refine wpAny_bind (wpAny_sharingNotTold_none hb ?_)
  first | rw [if_neg Bool.false_ne_true] | simp only [Bool.false_eq_true, if_false]
  exact wpAny_bind (wpAny_rule (wpAny_bind (wpAny_askSetting (wpAny_pure (hq _)))))
theorem eqAt_float {A : Around} {s : Shared} {x : UInt64} {t u : Tok} (h0 : (t == 0 || u == 0) = false) (hb : NoneBooked s.heap) (hc : (Float64.cmp x x == some Ordering.eq) = true) : SeqAt.EqAt A s (.float x t) (.float x u) true := fun prog w E Q h => by
  unfold eqBool
  refine wpAny_holding ?_
  refine wpAny_ite_split (fun _ => wpAny_bind (wpAny_rule (wpAny_pure h))) (fun _ => ?_)
  refine wpAny_bind (isSame_float h0 hb fun b => ?_)
  cases b with
  | true => exact wpAny_pure h
  | false => exact wpAny_bind (AutoFloatOps.eq_0 (by rw [hc]; exact wpAny_truthy_bool h))
theorem ne_tup3 {prog : Program} {w : World} {A : Around} {E : Value → Shared → Prop} {s : Shared} {a b : Addr} {x y z : UInt64} {t1 t2 t3 u1 u2 u3 : Tok} {Q : Value → Shared → Prop}
    (ha : s.heap.get? a = some (tupO [.float x t1, .float y t2, .float z t3])) (hb : s.heap.get? b = some (tupO [.float x u1, .float y u2, .float z u3])) (h1 : t1 ≠ 0 ∧ t2 ≠ 0 ∧ t3 ≠ 0) (h2 : u1 ≠ 0 ∧ u2 ≠ 0 ∧ u3 ≠ 0) (hk : NoneBooked s.heap)
    (c1 : (Float64.cmp x x == some Ordering.eq) = true) (c2 : (Float64.cmp y y == some Ordering.eq) = true) (c3 : (Float64.cmp z z == some Ordering.eq) = true) (hu : A.units < cLine) (h : Q (.bool false) s) :
    wpAny (model prog w) A (compareOp .NotEq (.ref a) (.ref b)) Q E s := by
  have nz : ∀ {t u : Tok}, t ≠ 0 → u ≠ 0 → (t == 0 || u == 0) = false := fun {t u} e1 e2 => by
    rw [show (t == 0) = false from beq_eq_false_iff_ne.mpr e1, show (u == 0) = false from beq_eq_false_iff_ne.mpr e2]; rfl
  refine show wpAny (model prog w) A (richCompare .NotEq (.ref a) (.ref b)) Q E s from (SeqAt.RcNeAt.tuples (items := #[.float x t1, .float y t2, .float z t3]) (items2 := #[.float x u1, .float y u2, .float z u3]) (e := fun _ => true) ⟨_, ha, rfl, 0, rfl⟩ ⟨_, hb, rfl, 0, rfl⟩ hu (fun j j1 j2 => ?_)) prog w E Q h
  have j3 : j < 3 := j1
  rcases j with _ | _ | _ | j
  · exact eqAt_float (nz h1.1 h2.1) hk c1
  · exact eqAt_float (nz h1.2.1 h2.2.1) hk c2
  · exact eqAt_float (nz h1.2.2 h2.2.2) hk c3
  · omega
end Mine
end
section
open PySem PySem.W PyProof.Rows PySem.Calls
namespace Mine
set_option maxRecDepth 100000
set_option maxHeartbeats 8000000
local macro_rules | `(tactic| walk_at "exec For Name Call cons nil") => `(tactic| (k_here; (rename Fr _ _ _ _ => lF'); (with_unfolding_all refine' For_invVF lF' ?k1 ?k2 ?_; (case k1 => exact rfl); (case k2 => exact rfl); k_whole)))
local macro_rules | `(tactic| walk_at "pyIter ref") => `(tactic| (refine Halt.out ?_))
local macro_rules | `(tactic| k_all) => `(tactic| assumption)
abbrev nmE (D LB H R : Addr) (sm : Bool) (mk : Str) (tm : Tok) (b : Array UInt8) (tb : Tok) : List (Str × Value) := (Str.ofString "turned", Value.bytes b tb) :: nmB D LB H R sm mk tm
def revF (x : Int) : Int := 8 * x.fmod 2 + 4 * (x.fdiv 2).fmod 2 + 2 * (x.fdiv 4).fmod 2 + x.fdiv 8
def J5 (ps : List Int) (S : Addr) (D LB H R L : Addr) (oR oH oLB o3 oc on : Obj) (sm : Bool) (mk : Str) (tm : Tok) (b : Array UInt8) (tb : Tok) (i : Nat) (m : Str → Option Value) (nx : List (Addr × Obj)) : Prop :=
  ∃ (sp : List Value) (c : Nat), nx = [(S, listOf sp.toArray c), (R, oR), (H, oH), (LB, oLB), (L + 1 + 1 + 1, o3), (L + 1 + 1, oc), (L + 1, on)] ∧ IntsAre sp ((ps.take i).map revF) ∧ ∀ q ∈ nmE D LB H R sm mk tm b tb, m q.1 = some q.2
theorem rg1 : ∀ n : Nat, n < 14 → Builtin.Range.small 0 (n : Int) 1 = true ∧ Builtin.Range.rangeSize 0 (n : Int) 1 = (n : Int) := by decide +kernel
section
variable {prog : Program} {w : World} {A : Around} {E : Value → Shared → Prop} {s : Shared} {h₀ : Heap} {L : Addr} {m : Str → Option Value} {news : List (Addr × Obj)}
theorem cut4 {value slice : PySem.Expr} {b : Array UInt8} {t u v : Tok} {ps : List Int} {i : Nat} {x lo hi : Int} {Q : Value → Shared → Prop} (hF : Fr h₀ L s.heap m) (hN : News h₀ L s.heap news) (hb : Octs b ps) (hx : ps[i]? = some x) (h0 : 0 ≤ x) (h1 : x < 16) (hlo : lo = 4 * (i : Int)) (hhi : hi = 4 * (i : Int) + 4) (hn : ps.length ≤ 13)
    (h : ∀ c h' t' k, Fr h₀ L h' m → News h₀ L h' news → KBw.bInts c = [x.fmod 2, (x.fdiv 2).fmod 2, (x.fdiv 4).fmod 2, x.fdiv 8] → Q (.bytes c t') { s with heap := h', toks := k })
    (hs : subscripted slice false (.bytes b t) (.ref s.heap.objs.size) = operate [.ref s.heap.objs.size, .bytes b t] (getItem (.bytes b t) (.ref s.heap.objs.size)))
    (ht : ∀ r, letTemporaryGo value (.bytes b t) r = pure ()) :
    wpAny (model prog w) A (subscriptTail value slice (.bytes b t) (.ref s.heap.objs.size)) Q E { s with heap := s.heap.push { cls := .type "slice", data := .fields #[.int lo u, .int hi v, .none] } } :=
  KBc.slice_K hF hN rfl (IsPart.int _ _) (IsPart.int _ _) (by rw [KBw.ints_length, hb.1]; omega) (fun h' t' k F N e => h _ h' t' k F N (e.trans (octs_four hb hx h0 h1 hlo hhi))) hs ht
end
local macro_rules | `(tactic| walk_at "subscriptTail Name Slice bytes ref") => `(tactic| (k_here; k_dflt (refine' cut4 ?F ?N ?b ?x ?h0 ?h1 ?lo ?hi ?n ?_ ?s ?t; (case F => k_asm); (case N => k_asm); (case b => assumption); (case x => assumption); (case h0 => omega); (case h1 => omega); (case lo => omega); (case hi => omega); (case n => omega); (case s => with_unfolding_all rfl); (case t => intro _; with_unfolding_all rfl)); intro _ _ _ _ F' N' hC; (try k_sweep)))
local macro_rules | `(tactic| walk_at "exec For Name Subscript cons nil") => `(tactic| (k_here; (rename Fr _ _ _ _ => lF'); (with_unfolding_all refine' For_invVF lF' ?k1 ?k2 ?_; (case k1 => exact rfl); (case k2 => exact rfl); k_whole)))
local macro_rules | `(tactic| walk_at "pyIter bytes") => `(tactic| (refine Halt.out ?_))
theorem fold_rev (x : Int) : List.foldl (fun a k => 2 * a + k) 0 [x.fmod 2, (x.fdiv 2).fmod 2, (x.fdiv 4).fmod 2, x.fdiv 8] = revF x := by
  unfold revF
  simp only [List.foldl_cons, List.foldl_nil]
  omega
theorem revF_in {x : Int} (h0 : 0 ≤ x) (h1 : x < 16) : 0 ≤ revF x ∧ revF x < 16 := by
  have h := (by decide +kernel : ∀ n : Nat, n < 16 → 0 ≤ revF (n : Int) ∧ revF (n : Int) < 16) x.toNat (by omega)
  rwa [Int.toNat_of_nonneg h0] at h
theorem hsv16 (w : World) (mean : ExcName → Option Value) (mg mb : Str → Option Value) (news : List (Addr × Obj)) {v : Int} (hV : OkV v) (tk tk2 tk3 : Tok) :
    ClT w mean mg mb 71 news True [.float (sixteenth v) tk, .float one tk2, .float one tk3] (fun t1 t2 t3 => [.float (c3 v).1 t1, .float (c3 v).2.1 t2, .float (c3 v).2.2 t3]) :=
  fun _ _ _ _ _ _ _ _ _ _ _ _ _ _ _ _ _ B F X N T hk _ hd hu hr => hsv_C w mean mg mb news _ tk tk2 tk3 _ _ _ _ _ _ _ _ _ _ _ _ _ _ _ _ _ B F X N T hk hV.ok hd hu hr
theorem rgb16 (w : World) (mean : ExcName → Option Value) (mg mb : Str → Option Value) (news : List (Addr × Obj)) {v : Int} (hV : OkV v) (tk tk2 tk3 : Tok) :
    ClTn w mean mg mb 64 news True [.float (c3 v).1 tk, .float (c3 v).2.1 tk2, .float (c3 v).2.2 tk3] (fun t1 t2 t3 => [.float (sixteenth v) t1, .float half t2, .float one t3]) :=
  fun _ _ _ _ _ _ _ _ _ _ _ _ _ _ _ _ _ B F X N T hk _ hd hu hr => rgb_C w mean mg mb news _ _ _ tk tk2 tk3 _ _ _ _ _ _ _ _ _ _ _ _ _ _ _ _ _ B F X N T hk ⟨hV.mx, hV.mn⟩ hd hu (by rw [hV.hls]; exact hr)
section
variable {prog : Program} {w : World} {A : Around} {E : Value → Shared → Prop} {s : Shared} {v : Int} {t u : Tok} {Q : Value → Shared → Prop}
theorem div16 (hV : OkV v) (h : Q (.float (sixteenth v) s.toks) { s with toks := s.toks + 1 }) : wpAny (model prog w) A (binaryOp .Div (.int v t) (.int 16 u)) Q E s :=
  AutoIntOps.truediv_2 (by decide) (by show ¬ Float64.isInf (sixteenth v) = true; rw [hV.fin]; decide) h
end
section
variable {prog : Program} {w : World} {A : Around} {E : Value → Shared → Prop} {s : Shared} {v : Int} {t u : Tok} {Q : Value → Shared → Prop}
theorem int16 (hA : A.handled = none) (hV : OkV v) (h : Q (.int v s.toks) { s with toks := s.toks + 1 }) : wpAny (model prog w) A (call (.type "int") [.float (Float64.mul (Float64.ofInt 16) (sixteenth v)) t]) Q E s :=
  Flt.call_int_float3 hA (fun e => by rw [show Float64.isNaN (Float64.mul (Float64.ofInt 16) (sixteenth v)) = false from hV.nan] at e; cases e) (fun e => by rw [show Float64.isInf (Float64.mul (Float64.ofInt 16) (sixteenth v)) = false from hV.inf] at e; cases e)
    fun _ => by rw [show Flt.toInt Float64.truncOf (Float64.mul (Float64.ofInt 16) (sixteenth v)) = v from hV.back]; exact h
end
local macro_rules | `(tactic| walk_at "binaryOp Div int int") => `(tactic| (k_here; k_dflt (refine div16 (by assumption) ?_); (try dsimp only)))
local macro_rules | `(tactic| walk_at "call ref") => `(tactic| (k_here; (with_reducible show wpAny _ _ (call (Value.ref 71) _) _ _ _); k_dflt (refine' useT (hsv16 _ _ _ _ _ (by assumption) _ _ _) ?k1 ?k2 ?k3 ?k4 ?k5 ?kK trivial ?kd ?ku ?_; (case k1 => k_asm); (case k2 => k_asm); (case k3 => k_asm); (case k4 => k_asm); (case k5 => k_asm); (case kK => first | exact rfl | assumption); (case kd => ktr_room); (case ku => ktr_units)); intro a9 t91 t92 t93 h9 tk9 F9 N9 l1; (try dsimp only); (try k_lt l1); (try k_fold)))
local macro_rules | `(tactic| walk_at "call ref") => `(tactic| (k_here; (with_reducible show wpAny _ _ (call (Value.ref 64) _) _ _ _); k_dflt (refine' useTn (rgb16 _ _ _ _ _ (by assumption) _ _ _) ?k1 ?k2 ?k3 ?k4 ?k5 ?kK trivial ?kd ?ku ?_; (case k1 => k_asm); (case k2 => k_asm); (case k3 => k_asm); (case k4 => k_asm); (case k5 => k_asm); (case kK => first | exact rfl | assumption); (case kd => ktr_room); (case ku => ktr_units)); intro a9 t91 t92 t93 h9 tk9 hnz F9 N9 l1; (try dsimp only); (try k_lt l1); (try k_fold)))
local macro_rules | `(tactic| walk_at "call type:int") => `(tactic| (k_here; k_dflt (refine int16 (by rfl) (by assumption) ?_); (try dsimp only)))
local macro_rules | `(tactic| walk_at "compareOp NotEq ref ref") => `(tactic| (k_here; k_dflt (refine' ne_tup3 ?a ?b ?n1 ?n2 ?k ?c1 ?c2 ?c3 ?u ?_; (case a => exact News.get (by k_asm) (by k_mem)); (case b => exact News.get (by k_asm) (by k_mem)); (case n1 => assumption); (case n2 => exact ⟨Nat.succ_ne_zero _, Nat.succ_ne_zero _, Nat.succ_ne_zero _⟩); (case k => exact booked (Frag.In.keeps (by assumption) (Fr.keep (by k_asm)))); (case c1 => rw [OkV.same (by assumption)]; rfl); (case c2 => decide +kernel); (case c3 => decide +kernel); (case u => ke_room))))
theorem lawE (w : World) (s₁ : Shared) (mean : ExcName → Option Value) (mg mb : Str → Option Value) (KX : (hd.heap_39 w.params).In s₁.heap) (T : Top hd.view_39 lawL mean mg mb s₁.heap)
   (L : Addr) (s : Shared) (m : Str → Option Value) (D LB H R : Addr) (tm : Tok) (sm : Bool) (mk : Str) (on oc o3 oR oH oLB : Obj) (tn tc : Tok) (count cut : Int) (n : Nat) (qn : on.data = .cell (some (.int count tn))) (qc : oc.data = .cell (some (.int cut tc))) (q3 : o3.data = .cell none)
   (ps : List Int) (hp : ps.length = n) (hcn : count + 1 = (n : Int)) (hn : n ≤ 13) (hps : ∀ p ∈ ps, 0 ≤ p ∧ p < 16) (b : Array UInt8) (tb : Tok) (hb : Octs b ps)
   (F : Fr s₁.heap L s.heap m) (hm : ∀ q ∈ nmE D LB H R sm mk tm b tb, m q.1 = some q.2) (N : News s₁.heap L s.heap [(R, oR), (H, oH), (LB, oLB), (L + 1 + 1 + 1, o3), (L + 1 + 1, oc), (L + 1, on)])
   (l1 : @Ne Nat (L + 1 + 1 + 1) LB) (l1b : @Ne Nat (L + 1 + 1) LB) (l1c : @Ne Nat (L + 1) LB) (l4 : @LT.lt Nat _ (L + 1 + 1 + 1) H) (l2 : @LT.lt Nat _ LB H) (l3 : @LT.lt Nat _ H R) (Q : Flow → Shared → Prop)
   (next : ∀ (h : Heap) (tk : Nat) (m1 : Str → Option Value) (S : Addr) (sp : List Value) (c : Nat) (o3' : Obj), Fr s₁.heap L h m1 → News s₁.heap L h [(S, listOf sp.toArray c), (R, oR), (H, oH), (LB, oLB), (L + 1 + 1 + 1, o3'), (L + 1 + 1, oc), (L + 1, on)] →
      o3'.data = .cell (some (.ref S)) → IntsAre sp (ps.map revF) → (∀ q ∈ nmE D LB H R sm mk tm b tb, m1 q.1 = some q.2) → @LT.lt Nat _ R S → Q .next { s with heap := h, toks := tk }) :
   wpAny (model PySem.Challenge.rw_zo0021_01.row.prog w) (callerA.deeper (lawEnv L)) (execs ((lawBody.drop 10).take 2) (lawEnv L)) Q (fun _ _ => False) s := by
  w_top off
  revert KX; k_fill; intro KX
  have K0 := below_caller s₁.heap
  replace F := fr_names _ hm F
  conv in List.take _ _ => arg 2; whnf
  simp only [List.take_succ_cons, List.take_zero]
  dsimp only [lawEnv]
  have eS : lawScope = lawScope := rfl
  conv at eS => rhs; whnf
  rw [eS]
  clear eS
  with_reducible show wpAny _ _ _ _ _ _
  (try k_fold)
  k_steps
  refine Halt.mk ?_
  rename IsRange _ _ _ _ _ _ _ _ => hR
  rename News _ _ _ _ => N9
  rename Fr _ _ _ _ => F9
  refine iter_rg (n := n) (J5 ps _ D LB H R L oR oH oLB _ oc on sm mk tm b tb) rfl hR ?hsmall ?hnn F9 N9 ⟨[], 0, rfl, .nil, ?_⟩ ?_ ?_
  case hsmall => rw [hcn]; exact (rg1 n (by omega)).1
  case hnn => rw [hcn]; exact (rg1 n (by omega)).2
  · refine List.forall_mem_cons.mpr ⟨?_, ?_⟩; exact rfl; refine List.forall_mem_cons.mpr ⟨?_, ?_⟩; exact rfl; refine List.forall_mem_cons.mpr ⟨?_, ?_⟩; exact rfl; refine List.forall_mem_cons.mpr ⟨?_, ?_⟩; exact rfl; refine List.forall_mem_cons.mpr ⟨?_, ?_⟩; exact rfl; refine List.forall_mem_cons.mpr ⟨?_, ?_⟩; exact rfl; refine List.forall_mem_cons.mpr ⟨?_, ?_⟩; exact rfl; exact List.forall_mem_nil _
  · rintro i ti m₁ nx h3 tk3 own hi hadr hoff ⟨sp, c, rfl, hsp, hm1⟩ F₁ N₁
    clear N9 F9
    replace F₁ := fr_names1 _ hm1 F₁
    simp only [List.cons_append, List.nil_append] at N₁
    obtain ⟨x, hx⟩ : ∃ x, ps[i]? = some x := ⟨_, List.getElem?_eq_getElem (by omega)⟩
    have hxb := hps x (List.mem_of_getElem? hx)
    k_steps
    refine Halt.mk ?_
    rename KBw.bInts _ = _ => hC
    rename News _ _ _ _ => N9
    rename Fr _ _ _ _ => F9
    refine KBw.iterBytes_acc1 (y := Str.ofString "part") (c₀ := 0) (fun a k => 2 * a + k) hC rfl F9 N9 rfl ?_ ?_
    · intro k t a ta h4 tk4 own2 hk k0 k1 hoff2 F2 N2
      clear N9 F9
      k_steps
      rename News _ _ _ _ => N8
      rename Fr _ _ _ _ => F8
      exact end_drop 0 F8 N8 rfl ⟨rfl, ⟨_, rfl⟩, fun z hz1 hz2 => by simp only [if_neg hz1, if_neg hz2]⟩ rfl
    · intro u t h4 tk4 F2 N2
      clear N9 F9
      rw [fold_rev] at F2
      have hv := revF_in hxb.1 hxb.2
      have hV := okV_of hv.1 hv.2
      k_steps
      rename News _ _ _ _ => N8
      rename Fr _ _ _ _ => F8
      rw [List.push_toArray] at N8
      refine end_drop 4 (nx := [_, _, _, _, _, _, _]) F8 N8 rfl ⟨_, _, rfl, ?_, ?_⟩ rfl
      · rw [take_next hx, List.map_append]; exact hsp.append (.cons _ _ .nil)
      · refine List.forall_mem_cons.mpr ⟨?_, ?_⟩; exact rfl; refine List.forall_mem_cons.mpr ⟨?_, ?_⟩; exact rfl; refine List.forall_mem_cons.mpr ⟨?_, ?_⟩; exact rfl; refine List.forall_mem_cons.mpr ⟨?_, ?_⟩; exact rfl; refine List.forall_mem_cons.mpr ⟨?_, ?_⟩; exact rfl; refine List.forall_mem_cons.mpr ⟨?_, ?_⟩; exact rfl; refine List.forall_mem_cons.mpr ⟨?_, ?_⟩; exact rfl; exact List.forall_mem_nil _
  · rintro m₁ nx h3 tk3 ⟨sp, c, rfl, hsp, hm1⟩ F₁ N₁
    clear N9 F9
    rw [List.take_of_length_le (by omega)] at hsp
    k_steps
    exact next _ _ _ _ sp c _ F₁ N₁ (by assumption) hsp hm1 (by omega)
end Mine
end
section
open PySem PySem.W PyProof.Rows PySem.Calls
namespace Mine
set_option maxRecDepth 100000
set_option maxHeartbeats 8000000
/-- the climb of reaches, as it was counted out -/
structure Climb (own : Str) (lab : Str) (sm : Bool) (bN cN : Nat → Str) : Prop where
  e0 : bN 0 = if sm = true then own else Txt.upper own
  r : ∀ i, i < 5 → reachF (bN i) = cN i
  s : ∀ i, i < 5 → Txt.slice (cN i) (some 1) none = bN (i + 1)
  zo : own.length ≤ 50
  zb : ∀ i, i < 6 → (bN i).length ≤ 50
  zc : ∀ i, i < 5 → (cN i).length ≤ 50
  top : cN 4 = if sm = true then Str.ofString ".local" else Txt.upper lab ++ Str.ofString ".LOCAL"
  dm : dmF own (cN 4) = sm
theorem reach_e (w : World) (mean : ExcName → Option Value) (mg mb : Str → Option Value) (news : List (Addr × Obj)) {b c : Str} (e : reachF b = c) (tk : Tok) :
    Cl0 w mean mg mb 57 news (b.length ≤ 50) [.str b tk] (fun t' => .str c t') := by
  subst e
  exact fun _ _ _ _ _ _ _ _ _ _ _ _ _ _ _ _ _ B F X N T hk hp hd hu hr => reach_C w mean mg mb news _ tk _ _ _ _ _ _ _ _ _ _ _ _ _ _ _ _ _ B F X N T hk (by simp only [Str.length] at hp; omega) hd hu hr
theorem pop_L {prog : Program} {w : World} {A : Around} {E : Value → Shared → Prop} {s : Shared} {h₀ : Heap} {L D : Addr} {m : Str → Option Value} {news news' : List (Addr × Obj)} {us : List Value} {n : Nat} {y : Value} {Q : Value → Shared → Prop} (F : Fr h₀ L s.heap m) (N : News h₀ L s.heap news)
    (U : Upd D (listOf (us ++ [y]).toArray n) (listOf us.toArray (n + 1)) news news') (hz : us.length ≤ 1000) (h : ∀ h', Fr h₀ L h' m → News h₀ L h' news' → Q y { s with heap := h' }) : wpAny (model prog w) A (call (.builtin "list.pop") [.ref D]) Q E s :=
  kl_pop F N (p := us) (y := y) (by simpa using kpa_last y us) U (by rw [sizeLine_eq]; simp; omega) h
local macro_rules | `(tactic| walk_at "call builtin:list.pop") => `(tactic| (k_here; k_dflt (refine' pop_L ?F ?N ?U ?z ?_; (case F => k_asm); (case N => k_asm); (case U => k_upd); (case z => omega)); intro h' F' N'; (try k_sweep)))
local macro_rules | `(tactic| k_all) => `(tactic| assumption)
theorem cutE {prog : Program} {w : World} {A : Around} {E : Value → Shared → Prop} {s : Shared} {h₀ : Heap} {L : Addr} {m : Str → Option Value} {news : List (Addr × Obj)} {value slice : PySem.Expr} {x y : Str} {t u : Tok} {i : Int} {Q : Value → Shared → Prop} (e : Txt.slice x (some i) none = y) (hz : x.length ≤ 50) (hF : Fr h₀ L s.heap m) (hN : News h₀ L s.heap news)
    (h : ∀ h' t' k, Fr h₀ L h' m → News h₀ L h' news → Q (.str y t') { s with heap := h', toks := k })
    (hs : subscripted slice false (.str x t) (.ref s.heap.objs.size) = operate [.ref s.heap.objs.size, .str x t] (getItem (.str x t) (.ref s.heap.objs.size)))
    (ht : ∀ r, letTemporaryGo value (.str x t) r = pure ()) :
    wpAny (model prog w) A (subscriptTail value slice (.str x t) (.ref s.heap.objs.size)) Q E { s with heap := s.heap.push { cls := .type "slice", data := .fields #[.int i u, .none, .none] } } := by
  subst e
  exact slice_strN_sn_len hF hN (fun h' t' k a b _ => h h' t' k a b) hs ht (by rw [sizeLine_eq]; omega)
theorem upE {prog : Program} {w : World} {A : Around} {E : Value → Shared → Prop} {s : Shared} {x y : Str} {t : Tok} {Q : Value → Shared → Prop} (e : Txt.upper x = y) (hz : y.length ≤ 50) (h : ∀ t' k, Q (.str y t') { s with toks := k }) : wpAny (model prog w) A (call (.builtin "str.upper") [.str x t]) Q E s := by
  subst e
  exact SC.upper (by simp only [Builtin.Str.tooLong, sizeLine_eq, decide_eq_false_iff_not]; omega) (h _ _)
local macro_rules | `(tactic| walk_at "call builtin:str.upper") => `(tactic| (k_here; (refine' upE ?e ?z ?_; (case e => with_reducible assumption); (case z => with_reducible assumption)); intro _ _; (try dsimp only)))
abbrev nmF (D LB H R C : Addr) (sm : Bool) (mk : Str) (tm : Tok) (b : Array UInt8) (tb : Tok) (own : Str) (to : Tok) (goal : Int) (tg : Tok) : List (Str × Value) := (Str.ofString "climb", .ref C) :: (Str.ofString "goal", .int goal tg) :: (Str.ofString "own", .str own to) :: nmE D LB H R sm mk tm b tb
theorem lawF (w : World) (s₁ : Shared) (mean : ExcName → Option Value) (mg mb : Str → Option Value) (KX : (hd.heap_39 w.params).In s₁.heap) (T : Top hd.view_39 lawL mean mg mb s₁.heap)
   (L : Addr) (s : Shared) (m : Str → Option Value) (D LB H R S : Addr) (tm : Tok) (sm : Bool) (mk : Str) (on oc o3 oR oLB : Obj) (goal : Int) (q3 : o3.data = .cell (some (.ref S)))
   (b : Array UInt8) (tb : Tok) (lb own b0 : Str) (to tg : Tok) (hs0 sp0 : List Value) (c d : Nat) (hhz : hs0.length ≤ 12) (hsz : sp0.length ≤ 12) (e0 : b0 = if sm = true then own else Txt.upper own) (z0 : b0.length ≤ 50)
   (F : Fr s₁.heap L s.heap m) (hm : ∀ q ∈ nmE D LB H R sm mk tm b tb, m q.1 = some q.2) (N : News s₁.heap L s.heap [(S, listOf (sp0 ++ [Value.int goal tg]).toArray d), (R, oR), (H, listOf (hs0 ++ [Value.str own to]).toArray c), (LB, oLB), (L + 1 + 1 + 1, o3), (L + 1 + 1, oc), (L + 1, on)])
   (l1 : @Ne Nat (L + 1 + 1 + 1) LB) (l1b : @Ne Nat (L + 1 + 1) LB) (l1c : @Ne Nat (L + 1) LB) (l4 : @LT.lt Nat _ (L + 1 + 1 + 1) H) (l2 : @LT.lt Nat _ LB H) (l3 : @LT.lt Nat _ H R) (l5 : @LT.lt Nat _ R S) (Q : Flow → Shared → Prop)
   (next : ∀ (h : Heap) (tk : Nat) (m1 : Str → Option Value) (C : Addr) (t0 : Tok), Fr s₁.heap L h m1 → News s₁.heap L h [(C, listOf (#[] : Array Value) 0), (S, listOf sp0.toArray (d + 1)), (R, oR), (H, listOf hs0.toArray (c + 1)), (LB, oLB), (L + 1 + 1 + 1, o3), (L + 1 + 1, oc), (L + 1, on)] →
      (∀ q ∈ (Str.ofString "below", Value.str b0 t0) :: nmF D LB H R C sm mk tm b tb own to goal tg, m1 q.1 = some q.2) → @LT.lt Nat _ S C → Q .next { s with heap := h, toks := tk }) :
   wpAny (model PySem.Challenge.rw_zo0021_01.row.prog w) (callerA.deeper (lawEnv L)) (execs ((lawBody.drop 12).take 4) (lawEnv L)) Q (fun _ _ => False) s := by
  w_top off
  revert KX; k_fill; intro KX
  have K0 := below_caller s₁.heap
  replace F := fr_names _ hm F
  conv in List.take _ _ => arg 2; whnf
  simp only [List.take_succ_cons, List.take_zero]
  dsimp only [lawEnv]
  have eS : lawScope = lawScope := rfl
  conv at eS => rhs; whnf
  rw [eS]
  clear eS
  with_reducible show wpAny _ _ _ _ _ _
  (try k_fold)
  rcases sm with _ | _
  · replace e0 : Txt.upper own = b0 := e0.symm
    k_steps
    rename Fr _ _ _ _ => F9
    rename News _ _ _ _ => N9
    exact next _ _ _ _ _ F9 N9 (by refine List.forall_mem_cons.mpr ⟨?_, ?_⟩; exact rfl; refine List.forall_mem_cons.mpr ⟨?_, ?_⟩; exact rfl; refine List.forall_mem_cons.mpr ⟨?_, ?_⟩; exact rfl; refine List.forall_mem_cons.mpr ⟨?_, ?_⟩; exact rfl; refine List.forall_mem_cons.mpr ⟨?_, ?_⟩; exact rfl; refine List.forall_mem_cons.mpr ⟨?_, ?_⟩; exact rfl; refine List.forall_mem_cons.mpr ⟨?_, ?_⟩; exact rfl; refine List.forall_mem_cons.mpr ⟨?_, ?_⟩; exact rfl; refine List.forall_mem_cons.mpr ⟨?_, ?_⟩; exact rfl; refine List.forall_mem_cons.mpr ⟨?_, ?_⟩; exact rfl; refine List.forall_mem_cons.mpr ⟨?_, ?_⟩; exact rfl; exact List.forall_mem_nil _) (by omega)
  · replace e0 : b0 = own := e0
    subst e0
    k_steps
    rename Fr _ _ _ _ => F9
    rename News _ _ _ _ => N9
    exact next _ _ _ _ _ F9 N9 (by refine List.forall_mem_cons.mpr ⟨?_, ?_⟩; exact rfl; refine List.forall_mem_cons.mpr ⟨?_, ?_⟩; exact rfl; refine List.forall_mem_cons.mpr ⟨?_, ?_⟩; exact rfl; refine List.forall_mem_cons.mpr ⟨?_, ?_⟩; exact rfl; refine List.forall_mem_cons.mpr ⟨?_, ?_⟩; exact rfl; refine List.forall_mem_cons.mpr ⟨?_, ?_⟩; exact rfl; refine List.forall_mem_cons.mpr ⟨?_, ?_⟩; exact rfl; refine List.forall_mem_cons.mpr ⟨?_, ?_⟩; exact rfl; refine List.forall_mem_cons.mpr ⟨?_, ?_⟩; exact rfl; refine List.forall_mem_cons.mpr ⟨?_, ?_⟩; exact rfl; refine List.forall_mem_cons.mpr ⟨?_, ?_⟩; exact rfl; exact List.forall_mem_nil _) (by omega)
end Mine
end
section
open PySem PySem.W PyProof.Rows PySem.Calls
namespace Mine
set_option maxRecDepth 100000
set_option maxHeartbeats 8000000
local macro_rules | `(tactic| walk_at "exec For Name Call cons nil") => `(tactic| (k_here; (rename Fr _ _ _ _ => lF'); (with_unfolding_all refine' For_invVF lF' ?k1 ?k2 ?_; (case k1 => exact rfl); (case k2 => exact rfl); k_whole)))
local macro_rules | `(tactic| walk_at "pyIter ref") => `(tactic| (refine Halt.out ?_))
local macro_rules | `(tactic| k_all) => `(tactic| assumption)
local macro_rules | `(tactic| walk_at "call ref") => `(tactic| (k_here; (with_reducible show wpAny _ _ (call (Value.ref 57) _) _ _ _); k_dflt (refine' use1 (reach_e _ _ _ _ _ (by with_reducible assumption) _) ?k1 ?k2 ?k3 ?k4 ?k5 ?kK ?kp ?kd ?ku ?_; (case k1 => k_asm); (case k2 => k_asm); (case k3 => k_asm); (case k4 => k_asm); (case k5 => k_asm); (case kK => first | exact rfl | assumption); (case kp => with_reducible assumption); (case kd => ktr_room); (case ku => ktr_units)); intro t9 h9 tk9 F9 N9; (try dsimp only); (try k_fold)))
local macro_rules | `(tactic| walk_at "subscriptTail Subscript Slice str ref") => `(tactic| (k_here; k_dflt (refine' cutE ?e ?z ?F ?N ?_ ?s ?t; (case F => k_asm); (case N => k_asm); (case e => with_reducible assumption); (case z => with_reducible assumption); (case s => with_unfolding_all rfl); (case t => intro _; with_unfolding_all rfl)); intro _ _ _ F' N'; (try k_sweep)))
local macro_rules | `(tactic| walk_at "subscriptTail Name Slice str ref") => `(tactic| (k_here; k_dflt (refine' cutE ?e ?z ?F ?N ?_ ?s ?t; (case F => k_asm); (case N => k_asm); (case e => with_reducible assumption); (case z => with_reducible assumption); (case s => with_unfolding_all rfl); (case t => intro _; with_unfolding_all rfl)); intro _ _ _ F' N'; (try k_sweep)))
local macro_rules | `(tactic| walk_at "call builtin:list.append") => `(tactic| (k_here; k_dflt (refine' append_L ?F ?N ?U ?z ?_; (case F => k_asm); (case N => k_asm); (case U => k_upd); (case z => omega)); intro h' F' N'; (try k_sweep)))
section
variable {prog : Program} {w : World} {A : Around} {E : Value → Shared → Prop} {s : Shared} {h₀ : Heap} {L D : Addr} {news : List (Addr × Obj)} {value slice : PySem.Expr} {us : List Value} {x : Value} {n : Nat} {k : Int} {u : Tok} {Q : Value → Shared → Prop}
theorem itemLast (N : News h₀ L s.heap news) (hm : (D, listOf (us ++ [x]).toArray n) ∈ news) (hk : k = (us.length : Int)) (hz : us.length ≤ 1000) (h : Q x s) (hs : subscripted slice false (.ref D) (.int k u) = operate [.ref D, .int k u] (getItem (.ref D) (.int k u))) (hg : ∀ r, letTemporaryGo value (.ref D) r = pure ()) :
    wpAny (model prog w) A (subscriptTail value slice (.ref D) (.int k u)) Q E s := by
  subst hk
  exact item_list (News.isList N hm) (by omega) (by simp; omega) (by simp) h hs hg
end
local macro_rules | `(tactic| walk_at "subscriptTail Name Name ref int") => `(tactic| (k_here; k_dflt (refine' itemLast ?N ?m ?k ?z ?_ ?s ?t; (case N => k_asm); (case m => k_mem); (case k => omega); (case z => omega); (case s => with_unfolding_all rfl); (case t => intro _; with_unfolding_all rfl)); (try dsimp only)))
def J7 (cN bN : Nat → Str) (C : Addr) (rest : List (Addr × Obj)) (D LB H R : Addr) (sm : Bool) (mk : Str) (tm : Tok) (b : Array UInt8) (tb : Tok) (own : Str) (to : Tok) (goal : Int) (tg : Tok) (i : Nat) (m : Str → Option Value) (nx : List (Addr × Obj)) : Prop :=
  ∃ (us : List Value) (c : Nat) (t0 : Tok), nx = (C, listOf us.toArray c) :: rest ∧ StrsAre us ((List.range i).map cN) ∧ ∀ q ∈ (Str.ofString "below", Value.str (bN i) t0) :: nmF D LB H R C sm mk tm b tb own to goal tg, m q.1 = some q.2
theorem J7.mk {cN bN : Nat → Str} {C : Addr} {rest : List (Addr × Obj)} {D LB H R : Addr} {sm : Bool} {mk : Str} {tm : Tok} {b : Array UInt8} {tb : Tok} {own : Str} {to : Tok} {goal : Int} {tg : Tok} {i : Nat} {m : Str → Option Value} {us : List Value} {c : Nat} {t0 : Tok}
    (h1 : StrsAre us ((List.range i).map cN)) (h2 : ∀ q ∈ (Str.ofString "below", Value.str (bN i) t0) :: nmF D LB H R C sm mk tm b tb own to goal tg, m q.1 = some q.2) : J7 cN bN C rest D LB H R sm mk tm b tb own to goal tg i m ((C, listOf us.toArray c) :: rest) := ⟨us, c, t0, rfl, h1, h2⟩
theorem rg5 : Builtin.Range.small 0 5 1 = true ∧ Builtin.Range.rangeSize 0 5 1 = ((5 : Nat) : Int) := by decide +kernel
theorem lawG (w : World) (s₁ : Shared) (mean : ExcName → Option Value) (mg mb : Str → Option Value) (KX : (hd.heap_39 w.params).In s₁.heap) (T : Top hd.view_39 lawL mean mg mb s₁.heap)
   (L : Addr) (s : Shared) (m : Str → Option Value) (D LB H R S C : Addr) (tm : Tok) (sm : Bool) (mk : Str) (on oc o3 oR oLB oS oH : Obj) (goal : Int)
   (b : Array UInt8) (tb : Tok) (lb own : Str) (bN cN : Nat → Str) (to tg t0 : Tok) (K : Climb own lb sm bN cN)
   (F : Fr s₁.heap L s.heap m) (hm : ∀ q ∈ (Str.ofString "below", Value.str (bN 0) t0) :: nmF D LB H R C sm mk tm b tb own to goal tg, m q.1 = some q.2) (N : News s₁.heap L s.heap [(C, listOf (#[] : Array Value) 0), (S, oS), (R, oR), (H, oH), (LB, oLB), (L + 1 + 1 + 1, o3), (L + 1 + 1, oc), (L + 1, on)])
   (l1 : @Ne Nat (L + 1 + 1 + 1) LB) (l1b : @Ne Nat (L + 1 + 1) LB) (l1c : @Ne Nat (L + 1) LB) (l4 : @LT.lt Nat _ (L + 1 + 1 + 1) H) (l2 : @LT.lt Nat _ LB H) (l3 : @LT.lt Nat _ H R) (l5 : @LT.lt Nat _ R S) (l6 : @LT.lt Nat _ S C) (Q : Flow → Shared → Prop)
   (next : ∀ (h : Heap) (tk : Nat) (m1 : Str → Option Value) (us : List Value) (c : Nat), Fr s₁.heap L h m1 → News s₁.heap L h [(C, listOf us.toArray c), (S, oS), (R, oR), (H, oH), (LB, oLB), (L + 1 + 1 + 1, o3), (L + 1 + 1, oc), (L + 1, on)] →
      StrsAre us ((List.range 5).map cN) → (∀ q ∈ nmF D LB H R C sm mk tm b tb own to goal tg, m1 q.1 = some q.2) → Q .next { s with heap := h, toks := tk }) :
   wpAny (model PySem.Challenge.rw_zo0021_01.row.prog w) (callerA.deeper (lawEnv L)) (execs ((lawBody.drop 16).take 1) (lawEnv L)) Q (fun _ _ => False) s := by
  w_top off
  revert KX; k_fill; intro KX
  have K0 := below_caller s₁.heap
  replace F := fr_names _ hm F
  conv in List.take _ _ => arg 2; whnf
  simp only [List.take_succ_cons, List.take_zero]
  dsimp only [lawEnv]
  have eS : lawScope = lawScope := rfl
  conv at eS => rhs; whnf
  rw [eS]
  clear eS
  with_reducible show wpAny _ _ _ _ _ _
  (try k_fold)
  k_steps
  refine Halt.mk ?_
  rename IsRange _ _ _ _ _ _ _ _ => hR
  rename News _ _ _ _ => N9
  rename Fr _ _ _ _ => F9
  refine iter_rg (n := 5) (J7 cN bN C [(S, oS), (R, oR), (H, oH), (LB, oLB), (L + 1 + 1 + 1, o3), (L + 1 + 1, oc), (L + 1, on)] D LB H R sm mk tm b tb own to goal tg) rfl hR rg5.1 rg5.2 F9 N9 ⟨[], 0, t0, rfl, .nil, ?_⟩ ?_ ?_
  · refine List.forall_mem_cons.mpr ⟨?_, ?_⟩; exact rfl; refine List.forall_mem_cons.mpr ⟨?_, ?_⟩; exact rfl; refine List.forall_mem_cons.mpr ⟨?_, ?_⟩; exact rfl; refine List.forall_mem_cons.mpr ⟨?_, ?_⟩; exact rfl; refine List.forall_mem_cons.mpr ⟨?_, ?_⟩; exact rfl; refine List.forall_mem_cons.mpr ⟨?_, ?_⟩; exact rfl; refine List.forall_mem_cons.mpr ⟨?_, ?_⟩; exact rfl; refine List.forall_mem_cons.mpr ⟨?_, ?_⟩; exact rfl; refine List.forall_mem_cons.mpr ⟨?_, ?_⟩; exact rfl; refine List.forall_mem_cons.mpr ⟨?_, ?_⟩; exact rfl; refine List.forall_mem_cons.mpr ⟨?_, ?_⟩; exact rfl; exact List.forall_mem_nil _
  · rintro i ti m₁ nx h3 tk3 own' hi hadr hoff ⟨us, c, t0, rfl, hus, hm1⟩ F₁ N₁
    clear N9 F9
    replace F₁ := fr_names1 _ hm1 F₁
    simp only [List.cons_append, List.nil_append] at N₁
    have hlu : us.length = i := by rw [hus.len_eq, List.length_map, List.length_range]
    have r0 := K.r i hi
    have s0 := K.s i hi
    have z1 := K.zb i (by omega)
    have z2 := K.zc i hi
    have z3 := K.zb (i + 1) (by omega)
    k_steps
    rename Fr _ _ _ _ => F8
    rename News _ _ _ _ => N8
    refine' end_drop 0 (nx := [_, _, _, _, _, _, _, _]) F8 N8 rfl (J7.mk ?u1 ?u2) rfl
    case u1 => rw [List.range_succ, List.map_append]; exact hus.append' (.cons _ _ .nil)
    case u2 => refine List.forall_mem_cons.mpr ⟨?_, ?_⟩; exact rfl; refine List.forall_mem_cons.mpr ⟨?_, ?_⟩; exact rfl; refine List.forall_mem_cons.mpr ⟨?_, ?_⟩; exact rfl; refine List.forall_mem_cons.mpr ⟨?_, ?_⟩; exact rfl; refine List.forall_mem_cons.mpr ⟨?_, ?_⟩; exact rfl; refine List.forall_mem_cons.mpr ⟨?_, ?_⟩; exact rfl; refine List.forall_mem_cons.mpr ⟨?_, ?_⟩; exact rfl; refine List.forall_mem_cons.mpr ⟨?_, ?_⟩; exact rfl; refine List.forall_mem_cons.mpr ⟨?_, ?_⟩; exact rfl; refine List.forall_mem_cons.mpr ⟨?_, ?_⟩; exact rfl; refine List.forall_mem_cons.mpr ⟨?_, ?_⟩; exact rfl; exact List.forall_mem_nil _
  · rintro m₁ nx h3 tk3 ⟨us, c, t0, rfl, hus, hm1⟩ F₁ N₁
    clear N9 F9
    k_steps
    exact next _ _ _ us c F₁ N₁ hus (fun q hq => hm1 q (.tail _ hq))
end Mine
end
section
open PySem PySem.W PyProof.Rows PySem.Calls
namespace Mine
set_option maxRecDepth 100000
set_option maxHeartbeats 8000000
theorem dm_e (w : World) (mean : ExcName → Option Value) (mg mb : Str → Option Value) (news : List (Addr × Obj)) {A B : Str} {r : Bool} (e : dmF A B = r) (tk tk2 : Tok) :
    Cl0 w mean mg mb 50 news (A.length ≤ 50 ∧ B.length ≤ 50) [.str A tk, .str B tk2] (fun _ => .bool r) := by
  subst e
  exact fun _ _ _ _ _ _ _ _ _ _ _ _ _ _ _ _ _ B F X N T hk hp hd hu hr => dm_C w mean mg mb news _ _ tk tk2 _ _ _ _ _ _ _ _ _ _ _ _ _ _ _ _ _ B F X N T hk (by simp only [Str.length] at hp; omega) hd hu hr
theorem labItemN {prog : Program} {w : World} {A : Around} {E : Value → Shared → Prop} {s : Shared} {h₀ : Heap} {L : Addr} {news : List (Addr × Obj)} {value slice : PySem.Expr} {D : Addr} {a b : Str} {t1 t2 u : Tok} {k : Int} {n : Nat} {Q : Value → Shared → Prop} (N : News h₀ L s.heap news) (hm : (D, listOf #[.str a t1, .str b t2] n) ∈ news) (h0 : 0 ≤ k) (h1 : k < 2)
    (h : ∀ t, Q (.str (pk a b k) t) s)
    (hs : subscripted slice false (.ref D) (.int k u) = operate [.ref D, .int k u] (getItem (.ref D) (.int k u)) := by with_unfolding_all rfl) :
    wpAny (model prog w) A (subscriptTail value slice (.ref D) (.int k u)) Q E s :=
  item_strsR (vs := [.str a t1, .str b t2]) (ys := [a, b]) (News.isList N hm) (.cons _ _ (.cons _ _ .nil)) h0 (by simpa using h1) (by omega) h hs
theorem fmod2_in (x : Int) : 0 ≤ x.fmod 2 ∧ x.fmod 2 < 2 := ⟨Int.fmod_nonneg_of_pos _ (by decide), Int.fmod_lt_of_pos _ (by decide)⟩
local macro_rules | `(tactic| walk_at "subscriptTail Name BinOp ref int") => `(tactic| (k_here; k_dflt (refine' labItemN ?N ?m ?h0 ?h1 ?_ ?hs; (case N => k_asm); (case m => k_mem); (case h0 => exact (fmod2_in _).1); (case h1 => exact (fmod2_in _).2); (case hs => with_unfolding_all rfl)); intro _; (try dsimp only)))
local macro_rules | `(tactic| k_all) => `(tactic| assumption)
local macro_rules | `(tactic| walk_at "call builtin:str.upper") => `(tactic| (k_here; (refine' upE ?e ?z ?_; (case e => with_reducible assumption); (case z => with_reducible assumption)); intro _ _; (try dsimp only)))
local macro_rules | `(tactic| walk_at "call ref") => `(tactic| (k_here; (with_reducible show wpAny _ _ (call (Value.ref 50) _) _ _ _); k_dflt (refine' use1 (dm_e _ _ _ _ _ (by with_reducible assumption) _ _) ?k1 ?k2 ?k3 ?k4 ?k5 ?kK ?kp ?kd ?ku ?_; (case k1 => k_asm); (case k2 => k_asm); (case k3 => k_asm); (case k4 => k_asm); (case k5 => k_asm); (case kK => first | exact rfl | assumption); (case kp => refine And.intro ?p1 ?p2; (case p1 => with_reducible assumption); (case p2 => with_reducible assumption)); (case kd => ktr_room); (case ku => ktr_units)); intro t9 h9 tk9 F9 N9; (try dsimp only); (try k_fold)))
theorem len_LOCAL : (Str.ofString ".LOCAL").length = 6 := by decide +kernel
local macro_rules | `(tactic| walk_at "binaryOp Add str str") => `(tactic| (k_here; (refine add_str ?_ ?sz; (case sz => rw [sizeLine_eq]; have hd9 := len_LOCAL; omega)); intro _ _; (try dsimp only)))
theorem lawH (w : World) (s₁ : Shared) (mean : ExcName → Option Value) (mg mb : Str → Option Value) (KX : (hd.heap_39 w.params).In s₁.heap) (T : Top hd.view_39 lawL mean mg mb s₁.heap)
   (L : Addr) (s : Shared) (m : Str → Option Value) (D LB H R S C : Addr) (tm : Tok) (sm : Bool) (mk : Str) (on oc o3 oR oS oH : Obj) (goal cut : Int) (tc : Tok) (qc : oc.data = .cell (some (.int cut tc)))
   (b : Array UInt8) (tb : Tok) (la lb ul own c0 c1 c2 c3 c4 : Str) (to tg ta tl u0 u1 u2 u3 u4 : Tok) (n : Nat) (eu : Txt.upper (pk la lb (cut.fmod 2)) = ul) (zu : ul.length ≤ 50) (zo : own.length ≤ 50) (z4 : c4.length ≤ 50) (top : c4 = if sm = true then Str.ofString ".local" else ul ++ Str.ofString ".LOCAL") (dm : dmF own c4 = sm)
   (F : Fr s₁.heap L s.heap m) (hm : ∀ q ∈ nmF D LB H R C sm mk tm b tb own to goal tg, m q.1 = some q.2) (N : News s₁.heap L s.heap [(C, listOf #[.str c0 u0, .str c1 u1, .str c2 u2, .str c3 u3, .str c4 u4] n), (S, oS), (R, oR), (H, oH), (LB, listOf #[.str la ta, .str lb tl] 0), (L + 1 + 1 + 1, o3), (L + 1 + 1, oc), (L + 1, on)])
   (l1 : @Ne Nat (L + 1 + 1 + 1) LB) (l1b : @Ne Nat (L + 1 + 1) LB) (l1c : @Ne Nat (L + 1) LB) (l4 : @LT.lt Nat _ (L + 1 + 1 + 1) H) (l2 : @LT.lt Nat _ LB H) (l3 : @LT.lt Nat _ H R) (l5 : @LT.lt Nat _ R S) (l6 : @LT.lt Nat _ S C) (Q : Flow → Shared → Prop)
   (next : ∀ (h : Heap) (tk : Nat) (m1 : Str → Option Value), Fr s₁.heap L h m1 → News s₁.heap L h [(C, listOf #[.str c0 u0, .str c1 u1, .str c2 u2, .str c3 u3, .str c4 u4] n), (S, oS), (R, oR), (H, oH), (LB, listOf #[.str la ta, .str lb tl] 0), (L + 1 + 1 + 1, o3), (L + 1 + 1, oc), (L + 1, on)] →
      (∀ q ∈ nmF D LB H R C sm mk tm b tb own to goal tg, m1 q.1 = some q.2) → Q .next { s with heap := h, toks := tk }) :
   wpAny (model PySem.Challenge.rw_zo0021_01.row.prog w) (callerA.deeper (lawEnv L)) (execs ((lawBody.drop 17).take 2) (lawEnv L)) Q (fun _ _ => False) s := by
  w_top off
  revert KX; k_fill; intro KX
  have K0 := below_caller s₁.heap
  replace F := fr_names _ hm F
  conv in List.take _ _ => arg 2; whnf
  simp only [List.take_succ_cons, List.take_zero]
  dsimp only [lawEnv]
  have eS : lawScope = lawScope := rfl
  conv at eS => rhs; whnf
  rw [eS]
  clear eS
  with_reducible show wpAny _ _ _ _ _ _
  (try k_fold)
  rcases sm with _ | _
  · replace top : c4 = ul ++ Str.ofString ".LOCAL" := top
    subst top
    k_steps
    all_goals (first | (rename (_ != _) = true => hne; rw [bne_self_eq_false] at hne; cases hne; done) | (rename Fr _ _ _ _ => F9; rename News _ _ _ _ => N9; exact next _ _ _ F9 N9 (by refine List.forall_mem_cons.mpr ⟨?_, ?_⟩; exact rfl; refine List.forall_mem_cons.mpr ⟨?_, ?_⟩; exact rfl; refine List.forall_mem_cons.mpr ⟨?_, ?_⟩; exact rfl; refine List.forall_mem_cons.mpr ⟨?_, ?_⟩; exact rfl; refine List.forall_mem_cons.mpr ⟨?_, ?_⟩; exact rfl; refine List.forall_mem_cons.mpr ⟨?_, ?_⟩; exact rfl; refine List.forall_mem_cons.mpr ⟨?_, ?_⟩; exact rfl; refine List.forall_mem_cons.mpr ⟨?_, ?_⟩; exact rfl; refine List.forall_mem_cons.mpr ⟨?_, ?_⟩; exact rfl; refine List.forall_mem_cons.mpr ⟨?_, ?_⟩; exact rfl; exact List.forall_mem_nil _)))
  · replace top : c4 = Str.ofString ".local" := top
    subst top
    k_steps
    all_goals (first | (rename (_ != _) = true => hne; rw [bne_self_eq_false] at hne; cases hne; done) | (rename Fr _ _ _ _ => F9; rename News _ _ _ _ => N9; exact next _ _ _ F9 N9 (by refine List.forall_mem_cons.mpr ⟨?_, ?_⟩; exact rfl; refine List.forall_mem_cons.mpr ⟨?_, ?_⟩; exact rfl; refine List.forall_mem_cons.mpr ⟨?_, ?_⟩; exact rfl; refine List.forall_mem_cons.mpr ⟨?_, ?_⟩; exact rfl; refine List.forall_mem_cons.mpr ⟨?_, ?_⟩; exact rfl; refine List.forall_mem_cons.mpr ⟨?_, ?_⟩; exact rfl; refine List.forall_mem_cons.mpr ⟨?_, ?_⟩; exact rfl; refine List.forall_mem_cons.mpr ⟨?_, ?_⟩; exact rfl; refine List.forall_mem_cons.mpr ⟨?_, ?_⟩; exact rfl; refine List.forall_mem_cons.mpr ⟨?_, ?_⟩; exact rfl; exact List.forall_mem_nil _)))
end Mine
end
section
open PySem PySem.W PyProof.Rows PySem.Calls
namespace Mine
set_option maxRecDepth 100000
set_option maxHeartbeats 8000000
local macro_rules | `(tactic| walk_at "subscriptTail Name BinOp ref int") => `(tactic| (k_here; k_dflt (refine' labItemN ?N ?m ?h0 ?h1 ?_ ?hs; (case N => k_asm); (case m => k_mem); (case h0 => exact (fmod2_in _).1); (case h1 => exact (fmod2_in _).2); (case hs => with_unfolding_all rfl)); intro _; (try dsimp only)))
local macro_rules | `(tactic| k_all) => `(tactic| assumption)
local macro_rules | `(tactic| walk_at "call ref") => `(tactic| (k_here; (with_reducible show wpAny _ _ (call (Value.ref 57) _) _ _ _); k_dflt (refine' use1 (reach_e _ _ _ _ _ (by with_reducible assumption) _) ?k1 ?k2 ?k3 ?k4 ?k5 ?kK ?kp ?kd ?ku ?_; (case k1 => k_asm); (case k2 => k_asm); (case k3 => k_asm); (case k4 => k_asm); (case k5 => k_asm); (case kK => first | exact rfl | assumption); (case kp => with_reducible assumption); (case kd => ktr_room); (case ku => ktr_units)); intro t9 h9 tk9 F9 N9; (try dsimp only); (try k_fold)))
local macro_rules | `(tactic| walk_at "call builtin:str.upper") => `(tactic| (k_here; (refine' upE ?e ?z ?_; (case e => with_reducible assumption); (case z => with_reducible assumption)); intro _ _; (try dsimp only)))
local macro_rules | `(tactic| walk_at "call ref") => `(tactic| (k_here; (with_reducible show wpAny _ _ (call (Value.ref 50) _) _ _ _); k_dflt (refine' use1 (dm_e _ _ _ _ _ (by with_reducible assumption) _ _) ?k1 ?k2 ?k3 ?k4 ?k5 ?kK ?kp ?kd ?ku ?_; (case k1 => k_asm); (case k2 => k_asm); (case k3 => k_asm); (case k4 => k_asm); (case k5 => k_asm); (case kK => first | exact rfl | assumption); (case kp => refine And.intro ?p1 ?p2; (case p1 => with_reducible assumption); (case p2 => with_reducible assumption)); (case kd => ktr_room); (case ku => ktr_units)); intro t9 h9 tk9 F9 N9; (try dsimp only); (try k_fold)))
local macro_rules | `(tactic| walk_at "subscriptTail Subscript Slice str ref") => `(tactic| (k_here; k_dflt (refine' cutE ?e ?z ?F ?N ?_ ?s ?t; (case F => k_asm); (case N => k_asm); (case e => with_reducible assumption); (case z => with_reducible assumption); (case s => with_unfolding_all rfl); (case t => intro _; with_unfolding_all rfl)); intro _ _ _ F' N'; (try k_sweep)))
local macro_rules | `(tactic| walk_at "subscriptTail Name Slice str ref") => `(tactic| (k_here; k_dflt (refine' cutE ?e ?z ?F ?N ?_ ?s ?t; (case F => k_asm); (case N => k_asm); (case e => with_reducible assumption); (case z => with_reducible assumption); (case s => with_unfolding_all rfl); (case t => intro _; with_unfolding_all rfl)); intro _ _ _ F' N'; (try k_sweep)))
theorem cutN {prog : Program} {w : World} {A : Around} {E : Value → Shared → Prop} {s : Shared} {h₀ : Heap} {L : Addr} {m : Str → Option Value} {news : List (Addr × Obj)} {value slice : PySem.Expr} {x y : Str} {t u : Tok} {i : Int} {Q : Value → Shared → Prop} (e : Txt.slice x none (some i) = y) (hz : x.length ≤ 50) (hF : Fr h₀ L s.heap m) (hN : News h₀ L s.heap news)
    (h : ∀ h' t' k, Fr h₀ L h' m → News h₀ L h' news → Q (.str y t') { s with heap := h', toks := k })
    (hs : subscripted slice false (.str x t) (.ref s.heap.objs.size) = operate [.ref s.heap.objs.size, .str x t] (getItem (.str x t) (.ref s.heap.objs.size)))
    (ht : ∀ r, letTemporaryGo value (.str x t) r = pure ()) :
    wpAny (model prog w) A (subscriptTail value slice (.str x t) (.ref s.heap.objs.size)) Q E { s with heap := s.heap.push { cls := .type "slice", data := .fields #[.none, .int i u, .none] } } := by
  subst e
  exact slice_strN_ns_len hF hN (fun h' t' k a b _ => h h' t' k a b) hs ht (by rw [sizeLine_eq]; omega)
local macro_rules | `(tactic| walk_at "subscriptTail Name Slice str ref") => `(tactic| (k_here; k_dflt (refine' cutN ?e ?z ?F ?N ?_ ?s ?t; (case F => k_asm); (case N => k_asm); (case e => with_reducible assumption); (case z => with_reducible assumption); (case s => with_unfolding_all rfl); (case t => intro _; with_unfolding_all rfl)); intro _ _ _ F' N'; (try k_sweep)))
/-- what is told of the bare name -/
structure Bare (own lab : Str) (nm : Bool) (ba ub rb b3 : Str) : Prop where
  n : (lab != Str.ofString "7") = nm
  s : Txt.slice own none (some (-6)) = ba
  u : Txt.upper ba = ub
  r : reachF ba = rb
  t : Txt.slice ba (some 3) none = b3
  v : rb = if nm = true then b3 else ba
  d1 : dmF ub rb = true
  d2 : dmF ba b3 = nm
  z : own.length ≤ 50 ∧ ba.length ≤ 50 ∧ ub.length ≤ 50 ∧ rb.length ≤ 50 ∧ b3.length ≤ 50
theorem lawI (w : World) (s₁ : Shared) (mean : ExcName → Option Value) (mg mb : Str → Option Value) (KX : (hd.heap_39 w.params).In s₁.heap) (T : Top hd.view_39 lawL mean mg mb s₁.heap)
   (L : Addr) (s : Shared) (m : Str → Option Value) (D LB H R S C : Addr) (tm : Tok) (sm : Bool) (mk : Str) (on oc o3 oR oS oH oC : Obj) (goal cut : Int) (tc : Tok) (qc : oc.data = .cell (some (.int cut tc)))
   (b : Array UInt8) (tb : Tok) (la lb own ba ub rb b3 : Str) (nm : Bool) (to tg ta tl : Tok) (K : Bare own (pk la lb (cut.fmod 2)) nm ba ub rb b3)
   (F : Fr s₁.heap L s.heap m) (hm : ∀ q ∈ nmF D LB H R C sm mk tm b tb own to goal tg, m q.1 = some q.2) (N : News s₁.heap L s.heap [(C, oC), (S, oS), (R, oR), (H, oH), (LB, listOf #[.str la ta, .str lb tl] 0), (L + 1 + 1 + 1, o3), (L + 1 + 1, oc), (L + 1, on)])
   (l1 : @Ne Nat (L + 1 + 1 + 1) LB) (l1b : @Ne Nat (L + 1 + 1) LB) (l1c : @Ne Nat (L + 1) LB) (l4 : @LT.lt Nat _ (L + 1 + 1 + 1) H) (l2 : @LT.lt Nat _ LB H) (l3 : @LT.lt Nat _ H R) (l5 : @LT.lt Nat _ R S) (l6 : @LT.lt Nat _ S C) (Q : Flow → Shared → Prop)
   (next : ∀ (h : Heap) (tk : Nat) (m1 : Str → Option Value), Fr s₁.heap L h m1 → News s₁.heap L h [(C, oC), (S, oS), (R, oR), (H, oH), (LB, listOf #[.str la ta, .str lb tl] 0), (L + 1 + 1 + 1, o3), (L + 1 + 1, oc), (L + 1, on)] →
      (∀ q ∈ nmF D LB H R C sm mk tm b tb own to goal tg, m1 q.1 = some q.2) → Q .next { s with heap := h, toks := tk }) :
   wpAny (model PySem.Challenge.rw_zo0021_01.row.prog w) (callerA.deeper (lawEnv L)) (execs ((lawBody.drop 19).take 4) (lawEnv L)) Q (fun _ _ => False) s := by
  w_top off
  revert KX; k_fill; intro KX
  have K0 := below_caller s₁.heap
  replace F := fr_names _ hm F
  conv in List.take _ _ => arg 2; whnf
  simp only [List.take_succ_cons, List.take_zero]
  dsimp only [lawEnv]
  have eS : lawScope = lawScope := rfl
  conv at eS => rhs; whnf
  rw [eS]
  clear eS
  with_reducible show wpAny _ _ _ _ _ _
  (try k_fold)
  obtain ⟨eN, eS, eU, eR, eT, eV, d1, d2, z1, z2, z3, z4, z5⟩ := K
  rcases nm with _ | _
  · replace eV : rb = ba := eV
    subst eV
    k_steps
    all_goals (first | (rename (_ != _) = true => hne; rw [bne_self_eq_false] at hne; cases hne; done) | (rename (_ != (_ != _)) = true => hne; rw [eN] at hne; cases hne; done) | (rename Fr _ _ _ _ => F9; rename News _ _ _ _ => N9; exact next _ _ _ F9 N9 (by refine List.forall_mem_cons.mpr ⟨?_, ?_⟩; exact rfl; refine List.forall_mem_cons.mpr ⟨?_, ?_⟩; exact rfl; refine List.forall_mem_cons.mpr ⟨?_, ?_⟩; exact rfl; refine List.forall_mem_cons.mpr ⟨?_, ?_⟩; exact rfl; refine List.forall_mem_cons.mpr ⟨?_, ?_⟩; exact rfl; refine List.forall_mem_cons.mpr ⟨?_, ?_⟩; exact rfl; refine List.forall_mem_cons.mpr ⟨?_, ?_⟩; exact rfl; refine List.forall_mem_cons.mpr ⟨?_, ?_⟩; exact rfl; refine List.forall_mem_cons.mpr ⟨?_, ?_⟩; exact rfl; refine List.forall_mem_cons.mpr ⟨?_, ?_⟩; exact rfl; exact List.forall_mem_nil _)))
  · replace eV : rb = b3 := eV
    subst eV
    k_steps
    all_goals (first | (rename (_ != _) = true => hne; rw [bne_self_eq_false] at hne; cases hne; done) | (rename (_ != (_ != _)) = true => hne; rw [eN] at hne; cases hne; done) | (rename Fr _ _ _ _ => F9; rename News _ _ _ _ => N9; exact next _ _ _ F9 N9 (by refine List.forall_mem_cons.mpr ⟨?_, ?_⟩; exact rfl; refine List.forall_mem_cons.mpr ⟨?_, ?_⟩; exact rfl; refine List.forall_mem_cons.mpr ⟨?_, ?_⟩; exact rfl; refine List.forall_mem_cons.mpr ⟨?_, ?_⟩; exact rfl; refine List.forall_mem_cons.mpr ⟨?_, ?_⟩; exact rfl; refine List.forall_mem_cons.mpr ⟨?_, ?_⟩; exact rfl; refine List.forall_mem_cons.mpr ⟨?_, ?_⟩; exact rfl; refine List.forall_mem_cons.mpr ⟨?_, ?_⟩; exact rfl; refine List.forall_mem_cons.mpr ⟨?_, ?_⟩; exact rfl; refine List.forall_mem_cons.mpr ⟨?_, ?_⟩; exact rfl; exact List.forall_mem_nil _)))
end Mine
end
section
open PySem PySem.W PyProof.Rows PySem.Calls
namespace Mine
local macro_rules | `(tactic| walk_at "zz 0") => `(tactic| skip)
local macro_rules | `(tactic| walk_at "zz 1") => `(tactic| skip)
set_option maxRecDepth 100000
set_option maxHeartbeats 8000000
local macro_rules | `(tactic| walk_at "exec For Name Call cons nil") => `(tactic| (k_here; (rename Fr _ _ _ _ => lF'); (with_unfolding_all refine' For_invVF lF' ?k1 ?k2 ?_; (case k1 => exact rfl); (case k2 => exact rfl); k_whole)))
local macro_rules | `(tactic| walk_at "exec While BoolOp") => `(tactic| (k_here; k_dflt (refine whl_start 100 ?_)))
local macro_rules | `(tactic| walk_at "pyIter ref") => `(tactic| (refine Halt.out ?_))
local macro_rules | `(tactic| k_all) => `(tactic| assumption)
local macro_rules | `(tactic| walk_at "call ref") => `(tactic| (k_here; (with_reducible show wpAny _ _ (call (Value.ref 50) _) _ _ _); k_dflt (refine' use1 (dm_e _ _ _ _ _ (by with_reducible assumption) _ _) ?k1 ?k2 ?k3 ?k4 ?k5 ?kK ?kp ?kd ?ku ?_; (case k1 => k_asm); (case k2 => k_asm); (case k3 => k_asm); (case k4 => k_asm); (case k5 => k_asm); (case kK => first | exact rfl | assumption); (case kp => refine And.intro ?p1 ?p2; (case p1 => with_reducible assumption); (case p2 => with_reducible assumption)); (case kd => ktr_room); (case ku => ktr_units)); intro t9 h9 tk9 F9 N9; (try dsimp only); (try k_fold)))
section
variable {prog : Program} {w : World} {A : Around} {E : Value → Shared → Prop} {s : Shared} {h₀ : Heap} {L D : Addr} {news : List (Addr × Obj)} {value slice : PySem.Expr} {r us : List Value} {x x0 x1 x2 x3 x4 : Value} {n i : Nat} {k : Int} {u : Tok} {Q : Value → Shared → Prop}
theorem itemAt (N : News h₀ L s.heap news) (hm : (D, listOf us.toArray n) ∈ news) (hx : us[i]? = some x) (hk : k = (i : Int)) (hz : i ≤ 1000) (h : Q x s) (hs : subscripted slice false (.ref D) (.int k u) = operate [.ref D, .int k u] (getItem (.ref D) (.int k u))) (hg : ∀ r, letTemporaryGo value (.ref D) r = pure ()) :
    wpAny (model prog w) A (subscriptTail value slice (.ref D) (.int k u)) Q E s := by
  subst hk
  have hl := (List.getElem?_eq_some_iff.mp hx).1
  exact item_list (News.isList N hm) (by omega) (by simp; omega) (by simp [hx]) h hs hg
end
local macro_rules | `(tactic| walk_at "subscriptTail Name Name ref int") => `(tactic| (k_here; k_dflt (refine' itemAt ?N ?m ?x ?k ?z ?_ ?s ?t; (case N => k_asm); (case m => k_mem); (case x => with_reducible assumption); (case k => omega); (case z => omega); (case s => with_unfolding_all rfl); (case t => intro _; with_unfolding_all rfl)); (try dsimp only)))
local macro_rules | `(tactic| walk_at "subscriptTail Name BinOp ref int") => `(tactic| (k_here; k_dflt (first | (refine' itemAt (i := 3) ?N ?m ?x ?k ?z ?_ ?s ?t; (case k => decide); (case N => k_asm); (case m => k_mem); (case x => rfl); (case z => decide); (case s => with_unfolding_all rfl); (case t => intro _; with_unfolding_all rfl)) | (refine' itemAt (i := 2) ?N ?m ?x ?k ?z ?_ ?s ?t; (case k => decide); (case N => k_asm); (case m => k_mem); (case x => rfl); (case z => decide); (case s => with_unfolding_all rfl); (case t => intro _; with_unfolding_all rfl)) | (refine' itemAt (i := 1) ?N ?m ?x ?k ?z ?_ ?s ?t; (case k => decide); (case N => k_asm); (case m => k_mem); (case x => rfl); (case z => decide); (case s => with_unfolding_all rfl); (case t => intro _; with_unfolding_all rfl)) | (refine' itemAt (i := 0) ?N ?m ?x ?k ?z ?_ ?s ?t; (case k => decide); (case N => k_asm); (case m => k_mem); (case x => rfl); (case z => decide); (case s => with_unfolding_all rfl); (case t => intro _; with_unfolding_all rfl))); (try dsimp only)))
theorem eqB (A : Around) (s : Shared) (x : Bool) : SeqAt.EqAt A s (.bool x) (.bool x) true := by
  have e := SeqAt.EqAt.bool_bool (A := A) (s := s) x x
  rw [beq_self_eq_true] at e
  exact e
theorem ne_tupB {prog : Program} {w : World} {A : Around} {E : Value → Shared → Prop} {s : Shared} {a b : Addr} {x1 x2 y1 y2 : Bool} {Q : Value → Shared → Prop}
    (ha : s.heap.get? a = some (tupO [.bool x1, .bool x2])) (hb : s.heap.get? b = some (tupO [.bool y1, .bool y2])) (e1 : x1 = y1) (e2 : x2 = y2) (hu : A.units < cLine) (h : Q (.bool false) s) :
    wpAny (model prog w) A (compareOp .NotEq (.ref a) (.ref b)) Q E s := by
  subst e1
  subst e2
  refine show wpAny (model prog w) A (richCompare .NotEq (.ref a) (.ref b)) Q E s from (SeqAt.RcNeAt.tuples (items := #[.bool x1, .bool x2]) (items2 := #[.bool x1, .bool x2]) (e := fun _ => true) ⟨_, ha, rfl, 0, rfl⟩ ⟨_, hb, rfl, 0, rfl⟩ hu (fun j j1 j2 => ?_)) prog w E Q h
  have j3 : j < 2 := j1
  rcases j with _ | _ | j
  · exact eqB _ _ _
  · exact eqB _ _ _
  · omega
local macro_rules | `(tactic| walk_at "compareOp NotEq ref ref") => `(tactic| (refine Halt.out ?_))
theorem whl_by {b : Bool} {T F : Prop} (t : b = true → T) (f : b = false → F) : WhlIf b T F := by
  cases b
  · exact WhlIf.no rfl (f rfl)
  · exact WhlIf.yes rfl (t rfl)
local macro_rules | `(tactic| walk_at "WhlIf") => `(tactic| (k_here; first | (refine WhlIf.yes (by with_unfolding_all rfl) ?_) | (refine WhlIf.no (by with_unfolding_all rfl) ?_) | (refine whl_by ?_ ?_ <;> intro hb)))
theorem cmp0 : ∀ p : Nat, p < 12 → ∀ q : Nat, q < 16 → p % 2 ≠ q % 2 → decide (revF (p : Int) < revF (q : Int)) = (((q : Int).fdiv (2 ^ Int.toNat 0)).fmod 2 == 1) ∧ (revF (p : Int) == revF (q : Int)) = ((0 : Int) == 4) := by decide +kernel
theorem cmp1 : ∀ p : Nat, p < 12 → ∀ q : Nat, q < 16 → (p % 2 = q % 2 ∧ p % 4 ≠ q % 4) → decide (revF (p : Int) < revF (q : Int)) = (((q : Int).fdiv (2 ^ Int.toNat 1)).fmod 2 == 1) ∧ (revF (p : Int) == revF (q : Int)) = ((1 : Int) == 4) := by decide +kernel
theorem cmp2 : ∀ p : Nat, p < 12 → ∀ q : Nat, q < 16 → (p % 2 = q % 2 ∧ p % 4 = q % 4 ∧ p % 8 ≠ q % 8) → decide (revF (p : Int) < revF (q : Int)) = (((q : Int).fdiv (2 ^ Int.toNat 2)).fmod 2 == 1) ∧ (revF (p : Int) == revF (q : Int)) = ((2 : Int) == 4) := by decide +kernel
theorem cmp3 : ∀ p : Nat, p < 12 → ∀ q : Nat, q < 16 → (p % 2 = q % 2 ∧ p % 4 = q % 4 ∧ p % 8 = q % 8 ∧ p % 16 ≠ q % 16) → decide (revF (p : Int) < revF (q : Int)) = (((q : Int).fdiv (2 ^ Int.toNat 3)).fmod 2 == 1) ∧ (revF (p : Int) == revF (q : Int)) = ((3 : Int) == 4) := by decide +kernel
theorem cmp4 : ∀ p : Nat, p < 12 → ∀ q : Nat, q < 16 → (p % 2 = q % 2 ∧ p % 4 = q % 4 ∧ p % 8 = q % 8 ∧ p % 16 = q % 16) → decide (revF (p : Int) < revF (q : Int)) = false ∧ (revF (p : Int) == revF (q : Int)) = ((4 : Int) == 4) := by decide +kernel
def cntF (q w : Nat) : Nat → Int
  | 0 => 0
  | i + 1 => cntF q w i + if i % w = q % w then 1 else 0
def J10 (q : Nat) (I : Addr) (rest : List (Addr × Obj)) (D LB H R C : Addr) (sm : Bool) (mk : Str) (tm : Tok) (b : Array UInt8) (tb : Tok) (own : Str) (to : Tok) (goal : Int) (tg : Tok) (i : Nat) (m : Str → Option Value) (nx : List (Addr × Obj)) : Prop :=
  ∃ (a0 a1 a2 a3 : Int) (t0 t1 t2 t3 : Tok) (c : Nat), nx = (I, listOf #[.int a0 t0, .int a1 t1, .int a2 t2, .int a3 t3] c) :: rest ∧ a0 = cntF q 2 i ∧ a1 = cntF q 4 i ∧ a2 = cntF q 8 i ∧ a3 = cntF q 16 i ∧ ∀ p ∈ (Str.ofString "inside", Value.ref I) :: nmF D LB H R C sm mk tm b tb own to goal tg, m p.1 = some p.2
theorem J10.mk {q : Nat} {I : Addr} {rest : List (Addr × Obj)} {D LB H R C : Addr} {sm : Bool} {mk : Str} {tm : Tok} {b : Array UInt8} {tb : Tok} {own : Str} {to : Tok} {goal : Int} {tg : Tok} {i : Nat} {m : Str → Option Value} {a0 a1 a2 a3 : Int} {t0 t1 t2 t3 : Tok} {c : Nat}
   (h0 : a0 = cntF q 2 i) (h1 : a1 = cntF q 4 i) (h2 : a2 = cntF q 8 i) (h3 : a3 = cntF q 16 i) (hm : ∀ p ∈ (Str.ofString "inside", Value.ref I) :: nmF D LB H R C sm mk tm b tb own to goal tg, m p.1 = some p.2) : J10 q I rest D LB H R C sm mk tm b tb own to goal tg i m ((I, listOf #[.int a0 t0, .int a1 t1, .int a2 t2, .int a3 t3] c) :: rest) :=
  ⟨a0, a1, a2, a3, t0, t1, t2, t3, c, rfl, h0, h1, h2, h3, hm⟩
theorem cnt_yes {q w i : Nat} {a : Int} (e : a = cntF q w i) (h : i % w = q % w) : a + 1 = cntF q w (i + 1) := by
  show a + 1 = cntF q w i + (if i % w = q % w then 1 else 0)
  rw [if_pos h, e]
theorem cnt_no {q w i : Nat} {a : Int} (e : a = cntF q w i) (h : i % w ≠ q % w) : a = cntF q w (i + 1) := by
  show a = cntF q w i + (if i % w = q % w then 1 else 0)
  rw [if_neg h, e, Int.add_zero]
theorem ne_4 {i q : Nat} (h : i % 2 ≠ q % 2) : i % 4 ≠ q % 4 := by omega
theorem ne_8 {i q : Nat} (h : i % 4 ≠ q % 4) : i % 8 ≠ q % 8 := by omega
theorem ne_16 {i q : Nat} (h : i % 8 ≠ q % 8) : i % 16 ≠ q % 16 := by omega
theorem on_2 {i q : Nat} (h : i % 4 = q % 4) : i % 2 = q % 2 := by omega
theorem on_4 {i q : Nat} (h : i % 8 = q % 8) : i % 4 = q % 4 := by omega
theorem on_8 {i q : Nat} (h : i % 16 = q % 16) : i % 8 = q % 8 := by omega
theorem lawJ (w : World) (s₁ : Shared) (mean : ExcName → Option Value) (mg mb : Str → Option Value) (KX : (hd.heap_39 w.params).In s₁.heap) (T : Top hd.view_39 lawL mean mg mb s₁.heap)
   (L : Addr) (s : Shared) (m : Str → Option Value) (D LB H R S C : Addr) (tm : Tok) (sm : Bool) (mk : Str) (on oc o3 oR oLB : Obj) (goal cut count : Int) (tc tn : Tok) (qc : oc.data = .cell (some (.int cut tc))) (qn : on.data = .cell (some (.int count tn))) (q3 : o3.data = .cell (some (.ref S)))
   (b : Array UInt8) (tb : Tok) (la lb own c0 c1 c2 c3 c4 : Str) (to tg u0 u1 u2 u3 u4 : Tok) (n c d q k : Nat) (hs sp : List Value) (hq : cut = (q : Int)) (hq16 : q < 16) (hk : count = (k : Int)) (hk12 : k ≤ 12) (hgoal : goal = revF (q : Int))
   (hH : ∀ i, i < k → ∃ t, hs[i]? = some (.str (hostF la lb (i : Int)) t)) (hS : ∀ i, i < k → ∃ t, sp[i]? = some (.int (revF (i : Int)) t)) (hz : ∀ i, i < k → (hostF la lb (i : Int)).length ≤ 50)
   (z0 : c0.length ≤ 50) (z1 : c1.length ≤ 50) (z2 : c2.length ≤ 50) (z3 : c3.length ≤ 50)
   (m0 : ∀ i, i < k → dmF (hostF la lb (i : Int)) c3 = decide (i % 2 = q % 2)) (m1 : ∀ i, i < k → dmF (hostF la lb (i : Int)) c2 = decide (i % 4 = q % 4)) (m2 : ∀ i, i < k → dmF (hostF la lb (i : Int)) c1 = decide (i % 8 = q % 8)) (m3 : ∀ i, i < k → dmF (hostF la lb (i : Int)) c0 = decide (i % 16 = q % 16))
   (F : Fr s₁.heap L s.heap m) (hm : ∀ q ∈ nmF D LB H R C sm mk tm b tb own to goal tg, m q.1 = some q.2) (N : News s₁.heap L s.heap [(C, listOf #[.str c0 u0, .str c1 u1, .str c2 u2, .str c3 u3, .str c4 u4] n), (S, listOf sp.toArray d), (R, oR), (H, listOf hs.toArray c), (LB, oLB), (L + 1 + 1 + 1, o3), (L + 1 + 1, oc), (L + 1, on)])
   (l1 : @Ne Nat (L + 1 + 1 + 1) LB) (l1b : @Ne Nat (L + 1 + 1) LB) (l1c : @Ne Nat (L + 1) LB) (l4 : @LT.lt Nat _ (L + 1 + 1 + 1) H) (l2 : @LT.lt Nat _ LB H) (l3 : @LT.lt Nat _ H R) (l5 : @LT.lt Nat _ R S) (l6 : @LT.lt Nat _ S C) (Q : Flow → Shared → Prop)
   (next : ∀ (h : Heap) (tk : Nat) (m1 : Str → Option Value) (I : Addr) (a0 a1 a2 a3 : Int) (t0 t1 t2 t3 : Tok) (c' : Nat), Fr s₁.heap L h m1 → News s₁.heap L h [(I, listOf #[.int a0 t0, .int a1 t1, .int a2 t2, .int a3 t3] c'), (C, listOf #[.str c0 u0, .str c1 u1, .str c2 u2, .str c3 u3, .str c4 u4] n), (S, listOf sp.toArray d), (R, oR), (H, listOf hs.toArray c), (LB, oLB), (L + 1 + 1 + 1, o3), (L + 1 + 1, oc), (L + 1, on)] →
      a0 = cntF q 2 k → a1 = cntF q 4 k → a2 = cntF q 8 k → a3 = cntF q 16 k → (∀ q ∈ (Str.ofString "inside", Value.ref I) :: nmF D LB H R C sm mk tm b tb own to goal tg, m1 q.1 = some q.2) → @LT.lt Nat _ C I → Q .next { s with heap := h, toks := tk }) :
   wpAny (model PySem.Challenge.rw_zo0021_01.row.prog w) (callerA.deeper (lawEnv L)) (execs ((lawBody.drop 23).take 2) (lawEnv L)) Q (fun _ _ => False) s := by
  w_top off
  subst hq hgoal
  revert KX; k_fill; intro KX
  have K0 := below_caller s₁.heap
  replace F := fr_names _ hm F
  conv in List.take _ _ => arg 2; whnf
  simp only [List.take_succ_cons, List.take_zero]
  dsimp only [lawEnv]
  have eS : lawScope = lawScope := rfl
  conv at eS => rhs; whnf
  rw [eS]
  clear eS
  with_reducible show wpAny _ _ _ _ _ _
  (try k_fold)
  k_steps
  refine Halt.mk ?_
  rename IsRange _ _ _ _ _ _ _ _ => hR
  rename News _ _ _ _ => N9
  rename Fr _ _ _ _ => F9
  refine iter_rg (n := k) (J10 q _ [(C, listOf #[.str c0 u0, .str c1 u1, .str c2 u2, .str c3 u3, .str c4 u4] n), (S, listOf sp.toArray d), (R, oR), (H, listOf hs.toArray c), (LB, oLB), (L + 1 + 1 + 1, o3), (L + 1 + 1, oc), (L + 1, on)] D LB H R C sm mk tm b tb own to (revF (q : Int)) tg) rfl hR ?hsmall ?hnn F9 N9 (J10.mk rfl rfl rfl rfl ?hnm) ?_ ?_
  case hsmall => rw [hk]; exact (rg1 k (by omega)).1
  case hnn => rw [hk]; exact (rg1 k (by omega)).2
  case hnm => refine List.forall_mem_cons.mpr ⟨?_, ?_⟩; exact rfl; refine List.forall_mem_cons.mpr ⟨?_, ?_⟩; exact rfl; refine List.forall_mem_cons.mpr ⟨?_, ?_⟩; exact rfl; refine List.forall_mem_cons.mpr ⟨?_, ?_⟩; exact rfl; refine List.forall_mem_cons.mpr ⟨?_, ?_⟩; exact rfl; refine List.forall_mem_cons.mpr ⟨?_, ?_⟩; exact rfl; refine List.forall_mem_cons.mpr ⟨?_, ?_⟩; exact rfl; refine List.forall_mem_cons.mpr ⟨?_, ?_⟩; exact rfl; refine List.forall_mem_cons.mpr ⟨?_, ?_⟩; exact rfl; refine List.forall_mem_cons.mpr ⟨?_, ?_⟩; exact rfl; refine List.forall_mem_cons.mpr ⟨?_, ?_⟩; exact rfl; exact List.forall_mem_nil _
  · rintro i ti m₁ nx h3 tk3 own' hi hadr hoff ⟨a0, a1, a2, a3, t0, t1, t2, t3, c', rfl, e0, e1, e2, e3, hm1⟩ F₁ N₁
    clear N9 F9
    replace F₁ := fr_names1 _ hm1 F₁
    simp only [List.cons_append, List.nil_append] at N₁
    obtain ⟨th, hhi⟩ := hH i hi
    obtain ⟨ts, hsi⟩ := hS i hi
    have zh := hz i hi
    have f0 := m0 i hi
    have f1 := m1 i hi
    have f2 := m2 i hi
    have f3 := m3 i hi
    generalize hr0 : decide (i % 2 = q % 2) = r0 at f0
    generalize hr1 : decide (i % 4 = q % 4) = r1 at f1
    generalize hr2 : decide (i % 8 = q % 8) = r2 at f2
    generalize hr3 : decide (i % 16 = q % 16) = r3 at f3
    have hi2 : i < 12 := by omega
    have G0 := fun (h0 : r0 = false) => (fun hc => And.intro hc (cmp0 i hi2 q hq16 hc)) (of_decide_eq_false (hr0.trans h0))
    have G1 := fun (h0 : r0 = true) (h1 : r1 = false) => (fun hc => And.intro hc (cmp1 i hi2 q hq16 hc)) ⟨of_decide_eq_true (hr0.trans h0), of_decide_eq_false (hr1.trans h1)⟩
    have G2 := fun (h0 : r0 = true) (h1 : r1 = true) (h2 : r2 = false) => (fun hc => And.intro hc (cmp2 i hi2 q hq16 hc)) ⟨of_decide_eq_true (hr0.trans h0), of_decide_eq_true (hr1.trans h1), of_decide_eq_false (hr2.trans h2)⟩
    have G3 := fun (h0 : r0 = true) (h1 : r1 = true) (h2 : r2 = true) (h3 : r3 = false) => (fun hc => And.intro hc (cmp3 i hi2 q hq16 hc)) ⟨of_decide_eq_true (hr0.trans h0), of_decide_eq_true (hr1.trans h1), of_decide_eq_true (hr2.trans h2), of_decide_eq_false (hr3.trans h3)⟩
    have G4 := fun (h0 : r0 = true) (h1 : r1 = true) (h2 : r2 = true) (h3 : r3 = true) => (fun hc => And.intro hc (cmp4 i hi2 q hq16 hc)) ⟨of_decide_eq_true (hr0.trans h0), of_decide_eq_true (hr1.trans h1), of_decide_eq_true (hr2.trans h2), of_decide_eq_true (hr3.trans h3)⟩
    k_steps
    all_goals (
      refine Halt.mk ?_
      first
        | have hx := G0 (by with_reducible assumption)
        | have hx := G1 (by with_reducible assumption) (by with_reducible assumption)
        | have hx := G2 (by with_reducible assumption) (by with_reducible assumption) (by with_reducible assumption)
        | have hx := G3 (by with_reducible assumption) (by with_reducible assumption) (by with_reducible assumption) (by with_reducible assumption)
        | have hx := G4 (by with_reducible assumption) (by with_reducible assumption) (by with_reducible assumption) (by with_reducible assumption)
      clear G0 G1 G2 G3 G4
      have hc := hx.1
      have hb1 := hx.2.1
      have hb2 := hx.2.2
      clear hx
      refine' ne_tupB ?ta9 ?tb9 ?tc9 ?td9 ?tu9 ?_
      case ta9 => exact News.get (by k_asm) (by k_mem)
      case tb9 => exact News.get (by k_asm) (by k_mem)
      case tc9 => exact hb1
      case td9 => exact hb2
      case tu9 => ke_room
      k_steps
      rename Fr _ _ _ _ => F8
      rename News _ _ _ _ => N8
      refine' end_drop 2 (nx := [_, _, _, _, _, _, _, _, _]) F8 N8 rfl (J10.mk ?h09 ?h19 ?h29 ?h39 ?hm9) rfl
      case h09 => first | exact cnt_no e0 hc | exact cnt_yes e0 hc.1
      case h19 => first | exact cnt_no e1 (ne_4 hc) | exact cnt_no e1 hc.2 | exact cnt_yes e1 hc.2.1
      case h29 => first | exact cnt_no e2 (ne_8 (ne_4 hc)) | exact cnt_no e2 (ne_8 hc.2) | exact cnt_no e2 hc.2.2 | exact cnt_yes e2 hc.2.2.1
      case h39 => first | exact cnt_no e3 (ne_16 (ne_8 (ne_4 hc))) | exact cnt_no e3 (ne_16 (ne_8 hc.2)) | exact cnt_no e3 (ne_16 hc.2.2) | exact cnt_no e3 hc.2.2.2 | exact cnt_yes e3 hc.2.2.2
      case hm9 => refine List.forall_mem_cons.mpr ⟨?_, ?_⟩; exact rfl; refine List.forall_mem_cons.mpr ⟨?_, ?_⟩; exact rfl; refine List.forall_mem_cons.mpr ⟨?_, ?_⟩; exact rfl; refine List.forall_mem_cons.mpr ⟨?_, ?_⟩; exact rfl; refine List.forall_mem_cons.mpr ⟨?_, ?_⟩; exact rfl; refine List.forall_mem_cons.mpr ⟨?_, ?_⟩; exact rfl; refine List.forall_mem_cons.mpr ⟨?_, ?_⟩; exact rfl; refine List.forall_mem_cons.mpr ⟨?_, ?_⟩; exact rfl; refine List.forall_mem_cons.mpr ⟨?_, ?_⟩; exact rfl; refine List.forall_mem_cons.mpr ⟨?_, ?_⟩; exact rfl; refine List.forall_mem_cons.mpr ⟨?_, ?_⟩; exact rfl; exact List.forall_mem_nil _)
  · rintro m₁ nx h3 tk3 ⟨a0, a1, a2, a3, t0, t1, t2, t3, c', rfl, e0, e1, e2, e3, hm1⟩ F₁ N₁
    clear N9 F9
    k_steps
    exact next _ _ _ _ a0 a1 a2 a3 t0 t1 t2 t3 c' F₁ N₁ e0 e1 e2 e3 hm1 (by omega)
end Mine
end
section
open PySem PySem.W PyProof.Rows PySem.Calls
namespace Mine
set_option maxRecDepth 100000
set_option maxHeartbeats 4000000
/-- a tuple of the ledger, as the source of a comprehension -/
def TupAt (ax : Addr) (its : Array Value) (news : List (Addr × Obj)) : Prop := False ∨ ∃ o, (ax, o) ∈ news ∧ o.cls = .type "tuple" ∧ ∃ n, o.data = .seq its n
theorem TupAt.tuple {h₀ h : Heap} {L ax : Addr} {its : Array Value} {news : List (Addr × Obj)} (x : TupAt ax its news) (N : News h₀ L h news) : h.IsTuple ax its := by
  rcases x with x | ⟨o, hm, r⟩
  · exact x.elim
  · exact ⟨o, N.get hm, r⟩
section
variable {prog : Program} {w : World} {A : Around} {E : Value → Shared → Prop} {s : Shared} {h₀ : Heap} {L : Addr} {m : Str → Option Value} {env : Env}
def CompSrcT (prog : Program) (w : World) (A : Around) (h₀ : Heap) (L : Addr) (m : Str → Option Value) (env : Env) (elt : Expr) (x : Str) (scope : Scope) (cl : List (Str × Addr)) (Q : Value → Shared → Prop) (xv : Value) (s₁ : Shared) : Prop :=
  ∃ ax its news, xv = .ref ax ∧ A.handled = none ∧ Fr h₀ L s₁.heap m ∧ News h₀ L s₁.heap news ∧ TupAt ax its news ∧ its.size ≤ sizeLine ∧
    ∀ g, LCg.CompRest prog w A h₀ L m env elt x scope cl { s₁ with heap := g } (TupAt ax its) (fun i v => its[i]? = some v) (LCg.FinE h₀ L m { s₁ with heap := g } Q) its.size 0 [] news
theorem CompSrcT.intro {elt : Expr} {x : Str} {scope : Scope} {cl : List (Str × Addr)} {Q : Value → Shared → Prop} {ax : Addr} {its : Array Value} {k : Nat} {news : List (Addr × Obj)} {s₁ : Shared}
    (hh : A.handled = none) (F : Fr h₀ L s₁.heap m) (N : News h₀ L s₁.heap news) (hm : (ax, ({ cls := .type "tuple", data := .seq its k } : Obj)) ∈ news) (hsz : its.size ≤ sizeLine)
    (h : ∀ g, LCg.CompRest prog w A h₀ L m env elt x scope cl { s₁ with heap := g } (TupAt ax its) (fun i v => its[i]? = some v) (LCg.FinE h₀ L m { s₁ with heap := g } Q) its.size 0 [] news) :
    CompSrcT prog w A h₀ L m env elt x scope cl Q (.ref ax) s₁ := ⟨ax, its, news, rfl, hh, F, N, .inr ⟨_, hm, rfl, _, rfl⟩, hsz, h⟩
theorem tup_st {ax I : Addr} {its : Array Value} (i : Nat) (h h' : Heap) (o : Obj) (nw : List (Addr × Obj)) (st : h.IsTupleIter I ax i ∧ h.IsTuple ax its) (e : h.get? I = some o) (e' : h'.get? I = some o) (N : News h₀ L h' nw) (S : TupAt ax its nw) : h'.IsTupleIter I ax i ∧ h'.IsTuple ax its := by
  refine ⟨?_, S.tuple N⟩
  obtain ⟨o', q, r⟩ := st.1
  rw [e] at q
  cases q
  exact ⟨o, e', r⟩
theorem ListComp_T {elt iter : Expr} {x : Str} {px : Pos} {scope : Scope} {cl : List (Str × Addr)} {pos : Pos} {Q : Value → Shared → Prop} (F₀ : Fr h₀ L s.heap m)
    (hclos : closureFor scope env = pure cl) (hcell : ∀ y ∈ scope.names, y.2 ≠ .cell) (hkind : scope.kind = .function)
    (hnames : ∀ y ∈ scope.names, y.2 = .local → scope.names.lookup y.1 = some .local) (hx : scope.names.lookup x = some .local)
    (h : wpAny (model prog w) A (eval iter env) (CompSrcT prog w A h₀ L m env elt x scope cl Q) E s)
    (hs : ∀ x, foldedSetIterable iter env x = pure x := by intro _; rfl) :
    wpAny (model prog w) A (eval (.ListComp elt [⟨.Name x px, iter, [], 0⟩] scope pos) env) Q E s := by
  rw [eval_ListComp]
  refine wpAny_comprehension_free (use := none) rfl hs hclos hkind hnames (wpAny_mono h (fun xv s₁ h₁ => ?_) fun _ _ e => e)
  obtain ⟨ax, its, news, rfl, hh, F, N, S, hsz, R⟩ := h₁
  have hl := S.tuple N
  have hlt : ax < s₁.heap.objs.size := by obtain ⟨_, e, _⟩ := hl; exact Heap.lt_size e
  refine wpAny_pyIter_tuple hl ?_
  have up : ∀ b o, s₁.heap.get? b = some o → (s₁.heap.push { cls := .type "tuple_iterator", data := .fields #[.ref ax, .int 0 0] }).get? b = some o := fun b o e => Heap.get?_push_of_some _ e
  refine LCg.block_U (Walks.tuple hh s₁.heap.objs.size ax (Nat.ne_of_lt hlt) its) hsz (fun i h st => ?_) (fun i h h' o nw st e e' _ N S => tup_st i h h' o nw st e e' N S) hcell hkind hx ⟨⟨_, Heap.get?_push_size _ rfl, rfl, rfl⟩, ?_⟩ (fun b hb => ?_)
    (F.keeps up) (N.grown up) (Nat.ne_of_lt F.ns.lt) (next_is_new F) (fun p hp => Nat.ne_of_lt (Heap.lt_size (N p hp).1)) S (R _) ?_
  · obtain ⟨o, e, _⟩ := st.1
    exact ⟨o, e⟩
  · obtain ⟨o, e, r⟩ := hl
    exact ⟨o, up _ _ e, r⟩
  · show b < (s₁.heap.push _).objs.size
    rw [Heap.size_push]
    rcases List.mem_cons.mp hb with rfl | hb
    · exact Nat.lt_succ_self _
    · rw [List.mem_singleton.mp hb]; exact Nat.lt_succ_of_lt hlt
  · intro D C h tk m' ys news' F' N' o1 hn hC₀ hD₀ hCL hDL hCD offC fin
    refine ⟨m', hn, fun h'' hs'' => fin D h'' tk (F'.change hs'' hCL hC₀) (fun p hp => ?_) o1⟩
    refine ⟨hs''.extBut _ _ ?_ (N' p hp).1, (N' p hp).2⟩
    rcases List.mem_cons.mp hp with rfl | hp
    · exact Ne.symm hCD
    · exact offC p hp
end
end Mine
end
section
open PySem PySem.W PyProof.Rows PySem.Calls
namespace Mine
set_option maxRecDepth 100000
set_option maxHeartbeats 8000000
local macro_rules | `(tactic| k_all) => `(tactic| assumption)
theorem eqI (A : Around) (s : Shared) (x : Int) (t u : Tok) : SeqAt.EqAt A s (.int x t) (.int x u) true := by
  have e := SeqAt.EqAt.int_int (A := A) (s := s) x t x u
  rw [beq_self_eq_true] at e
  exact e
theorem ne_list4 {prog : Program} {w : World} {A : Around} {E : Value → Shared → Prop} {s : Shared} {a b : Addr} {x0 x1 x2 x3 y0 y1 y2 y3 : Int} {t0 t1 t2 t3 u0 u1 u2 u3 : Tok} {Q : Value → Shared → Prop}
    (ha : s.heap.IsList a #[.int x0 t0, .int x1 t1, .int x2 t2, .int x3 t3]) (hb : s.heap.IsList b #[.int y0 u0, .int y1 u1, .int y2 u2, .int y3 u3]) (e0 : x0 = y0) (e1 : x1 = y1) (e2 : x2 = y2) (e3 : x3 = y3) (hu : A.units < cLine) (h : Q (.bool false) s) :
    wpAny (model prog w) A (compareOp .NotEq (.ref a) (.ref b)) Q E s := by
  subst e0 e1 e2 e3
  refine show wpAny (model prog w) A (richCompare .NotEq (.ref a) (.ref b)) Q E s from (SeqAt.RcNeAt.lists (e := fun _ => true) ha hb rfl hu (fun j j1 j2 => ?_)) prog w E Q h
  have j3 : j < 4 := j1
  rcases j with _ | _ | _ | _ | j
  · exact eqI _ _ _ _ _
  · exact eqI _ _ _ _ _
  · exact eqI _ _ _ _ _
  · exact eqI _ _ _ _ _
  · omega
local macro_rules | `(tactic| walk_at "eval ListComp") => `(tactic| (k_here; k_dflt (refine ListComp_T (F₀ := by k_asm) (by with_unfolding_all rfl) (by decide) (by rfl) (by decide) (by rfl) ?_)))
local macro_rules | `(tactic| walk_at "CompSrcT") => `(tactic| (refine Halt.out ?_))
local macro_rules | `(tactic| walk_at "CompSrc") => `(tactic| (refine Halt.out ?_))
local macro_rules | `(tactic| walk_at "KPfDone") => `(tactic| (refine Halt.out ?_))
local macro_rules | `(tactic| walk_at "KCfEl") => `(tactic| (exact ⟨rfl, _, rfl⟩))
local macro_rules | `(tactic| walk_at "call builtin:list.sort") => `(tactic| (refine Halt.out ?_))
theorem ints_get : ∀ {us : List Value} {ns : List Int}, IntsAre us ns → ∀ i, i < ns.length → ∃ t, us[i]? = some (.int (ns.getD i 0) t)
  | _, _, .nil, _, h => absurd h (Nat.not_lt_zero _)
  | _, _, .cons _ t _, 0, _ => ⟨t, rfl⟩
  | _, _, .cons _ _ r, i + 1, h => by
    obtain ⟨t, e⟩ := ints_get r i (Nat.lt_of_succ_lt_succ h)
    exact ⟨t, e⟩
section
variable {prog : Program} {w : World} {A : Around} {E : Value → Shared → Prop} {s : Shared} {h₀ : Heap} {L D : Addr} {m : Str → Option Value} {news : List (Addr × Obj)} {value slice : PySem.Expr} {us : List Value} {ns : List Int} {x : Int} {n : Nat} {k : Int} {u : Tok} {Q : Value → Shared → Prop}
theorem itemInt (N : News h₀ L s.heap news) (hm : (D, listOf us.toArray n) ∈ news) (hi : IntsAre us ns) (h0 : 0 ≤ k) (h1 : k < (ns.length : Int)) (hz : ns.length ≤ 1000) (h : ∀ t, Q (.int (ns.getD k.toNat 0) t) s) (hs : subscripted slice false (.ref D) (.int k u) = operate [.ref D, .int k u] (getItem (.ref D) (.int k u))) (hg : ∀ r, letTemporaryGo value (.ref D) r = pure ()) :
    wpAny (model prog w) A (subscriptTail value slice (.ref D) (.int k u)) Q E s := by
  obtain ⟨t, e⟩ := ints_get hi k.toNat (by omega)
  exact itemAt N hm e (by omega) (by omega) (h t) hs hg
theorem sortE {news' : Obj → List (Addr × Obj)} {qs : List Int} (F : Fr h₀ L s.heap m) (N : News h₀ L s.heap news) (U : ∀ o, Upd D (listOf us.toArray n) o news (news' o)) (hi : IntsAre us ns) (hz : ns.length < 64) (hp : qs.isPerm ns = true) (ha : lks_asc qs = true)
    (h : ∀ vs' c h', Fr h₀ L h' m → News h₀ L h' (news' (listOf (List.toArray vs') c)) → IntsAre vs' qs → Q .none { s with heap := h' }) : wpAny (model prog w) A (call (.builtin "list.sort") [.ref D]) Q E s :=
  ksk_lsort F N U (by simp) hi hz fun vs' ns' c h' F' N' hi' _ hp' ho' _ => by
    have e : ns' = qs := lks_uniq (hp'.trans (List.isPerm_iff.mp hp).symm) ho' (lks_asc_spec ha)
    subst e
    exact h vs' c h' F' N' hi'
theorem sumE (F : Fr h₀ L s.heap m) (N : News h₀ L s.heap news) (hh : A.handled = none) (hm : (D, listOf us.toArray n) ∈ news) (hi : IntsAre us ns)
    (h : ∀ h' tk t', Fr h₀ L h' m → News h₀ L h' news → Q (.int ns.sum t') { s with heap := h', toks := tk }) : wpAny (model prog w) A (call (.builtin "sum") [.ref D]) Q E s :=
  LSm.sum_ints F N hh (News.isList N hm) hi h
theorem minE (F : Fr h₀ L s.heap m) (N : News h₀ L s.heap news) (hh : A.handled = none) (hm : (D, LCg.lst us) ∈ news) (hi : IntsAre us ns) (hx : x ∈ ns) (hlo : ∀ a ∈ ns, x ≤ a)
    (h : ∀ h' tk t', Fr h₀ L h' m → News h₀ L h' news → Q (.int x t') { s with heap := h', toks := tk }) : wpAny (model prog w) A (call (.builtin "min") [.ref D]) Q E s :=
  kso_min F N ⟨_, N.get hm, rfl, _, rfl⟩ hi (List.length_pos_of_mem hx) hh fun h' M t tk F' N' a b => by
    have e : M = x := Int.le_antisymm (b _ hx) (hlo _ a)
    subst e
    exact h h' tk t F' N'
theorem maxE (F : Fr h₀ L s.heap m) (N : News h₀ L s.heap news) (hh : A.handled = none) (hm : (D, LCg.lst us) ∈ news) (hi : IntsAre us ns) (hx : x ∈ ns) (hlo : ∀ a ∈ ns, a ≤ x)
    (h : ∀ h' tk t', Fr h₀ L h' m → News h₀ L h' news → Q (.int x t') { s with heap := h', toks := tk }) : wpAny (model prog w) A (call (.builtin "max") [.ref D]) Q E s :=
  kso_max F N ⟨_, N.get hm, rfl, _, rfl⟩ hi (List.length_pos_of_mem hx) hh fun h' M t tk F' N' a b => by
    have e : M = x := Int.le_antisymm (hlo _ a) (b _ hx)
    subst e
    exact h h' tk t F' N'
end
local macro_rules | `(tactic| walk_at "subscriptTail Name Name ref int") => `(tactic| (k_here; k_dflt (refine' itemInt ?N ?m ?i ?h0 ?h1 ?z ?_ ?s ?t; (case N => k_asm); (case m => k_mem); (case i => with_reducible assumption); (case h0 => omega); (case h1 => omega); (case z => omega); (case s => with_unfolding_all rfl); (case t => intro _; with_unfolding_all rfl)); intro _; (try dsimp only)))
local macro_rules | `(tactic| walk_at "call builtin:sum") => `(tactic| (k_here; k_dflt (refine' sumE ?F ?N ?hh ?m ?i ?_; (case F => k_asm); (case N => k_asm); (case hh => rfl); (case m => k_mem); (case i => with_reducible assumption)); intro _ _ _ F' N'; (try k_sweep)))
local macro_rules | `(tactic| walk_at "call builtin:min") => `(tactic| (k_here; k_dflt (refine' minE ?F ?N ?hh ?m ?i ?x ?l ?_; (case F => k_asm); (case N => k_asm); (case hh => rfl); (case m => k_mem); (case i => with_reducible assumption); (case l => with_reducible assumption); (case x => with_reducible assumption)); intro _ _ _ F' N'; (try k_sweep)))
local macro_rules | `(tactic| walk_at "call builtin:max") => `(tactic| (k_here; k_dflt (refine' maxE ?F ?N ?hh ?m ?i ?x ?l ?_; (case F => k_asm); (case N => k_asm); (case hh => rfl); (case m => k_mem); (case i => with_reducible assumption); (case l => with_reducible assumption); (case x => with_reducible assumption)); intro _ _ _ F' N'; (try k_sweep)))
local macro_rules | `(tactic| walk_at "call ref") => `(tactic| (k_here; (with_reducible show wpAny _ _ (call (Value.ref 134) _) _ _ _); k_dflt (refine' useP (most_C _ _ _ _ _ _) ?k1 ?k2 ?k3 ?k4 ?k5 ?kK ?kp ?kd ?ku ?_; (case k1 => k_asm); (case k2 => k_asm); (case k3 => k_asm); (case k4 => k_asm); (case k5 => k_asm); (case kK => first | exact rfl | assumption); (case kp => refine And.intro ?z1 ?z2; (case z1 => omega); (case z2 => omega)); (case kd => ktr_room); (case ku => ktr_units)); intro t9 h9 tk9 F9 N9; (try dsimp only); (try k_fold)))
local macro_rules | `(tactic| walk_at "compareOp NotEq ref ref") => `(tactic| (k_here; k_dflt (refine' ne_list4 ?a ?b ?c0 ?c1 ?c2 ?c3 ?u ?_; (case a => exact News.isList (by k_asm) (by k_mem)); (case b => exact ⟨_, News.get (by k_asm) (by k_mem), rfl, _, rfl⟩); (case c0 => with_reducible assumption); (case c1 => with_reducible assumption); (case c2 => with_reducible assumption); (case c3 => with_reducible assumption); (case u => ke_room))))
def gF (k q : Nat) (w : Int) : Int := ((k : Int) - (q : Int).fmod w + w - 1).fdiv w
theorem cnt2 : ∀ k : Nat, k < 13 → ∀ q : Nat, q < 16 → cntF q 2 k = gF k q 2 := by decide +kernel
theorem cnt4 : ∀ k : Nat, k < 13 → ∀ q : Nat, q < 16 → cntF q 4 k = gF k q 4 := by decide +kernel
theorem cnt8 : ∀ k : Nat, k < 13 → ∀ q : Nat, q < 16 → cntF q 8 k = gF k q 8 := by decide +kernel
theorem cnt16 : ∀ k : Nat, k < 13 → ∀ q : Nat, q < 16 → cntF q 16 k = gF k q 16 := by decide +kernel
def insF (x : Int) : List Int → List Int
  | [] => [x]
  | y :: r => if x ≤ y then x :: y :: r else y :: insF x r
def srtF (k : Nat) : List Int := ((List.range k).map fun i : Nat => revF (i : Int)).foldr insF []
def g2 (k : Nat) (j : Int) : Int := 16 * j - (k : Int) * (srtF k).getD j.toNat 0
def lackF (k : Nat) : Int := 16 * (k : Int) - 2 * (srtF k).sum
theorem srt_fact : ∀ k : Nat, k < 13 → (srtF k).isPerm ((List.range k).map fun i : Nat => revF (i : Int)) = true ∧ lks_asc (srtF k) = true ∧ (srtF k).length = k := by decide +kernel
theorem gain_fact : ∀ k : Nat, k < 13 → 0 < k → (0 : Int) ∈ (rangeKs 0 k).map (g2 k) ∧ (∀ a ∈ (rangeKs 0 k).map (g2 k), 0 ≤ a) ∧ (lackF k - 16) ∈ (rangeKs 0 k).map (g2 k) ∧ (∀ a ∈ (rangeKs 0 k).map (g2 k), a ≤ lackF k - 16) ∧ lackF k = mostF (k : Int) := by decide +kernel
theorem four_at (i : Nat) (v : Value) (t0 t1 t2 t3 : Tok) (hi : i < 4) (h : (#[Value.int 2 t0, .int 4 t1, .int 8 t2, .int 16 t3] : Array Value)[i]? = some v) : ∃ k t, ([2, 4, 8, 16] : List Int)[i]? = some k ∧ v = .int k t := by
  rcases i with _ | _ | _ | _ | i
  · exact ⟨_, _, rfl, (Option.some.inj h).symm⟩
  · exact ⟨_, _, rfl, (Option.some.inj h).symm⟩
  · exact ⟨_, _, rfl, (Option.some.inj h).symm⟩
  · exact ⟨_, _, rfl, (Option.some.inj h).symm⟩
  · omega
theorem rgC : ∀ n : Nat, n < 14 → Builtin.Range.small 0 (n : Int) 1 = true ∧ Builtin.Range.rangeSize 0 (n : Int) 1 = (n : Int) := by decide +kernel
theorem lawK (w : World) (s₁ : Shared) (mean : ExcName → Option Value) (mg mb : Str → Option Value) (KX : (hd.heap_39 w.params).In s₁.heap) (T : Top hd.view_39 lawL mean mg mb s₁.heap)
   (L : Addr) (s : Shared) (m : Str → Option Value) (D LB H R S C I : Addr) (tm : Tok) (sm : Bool) (mk : Str) (on oc o3 oR oLB oC oH : Obj) (goal cut count : Int) (tc tn : Tok) (qc : oc.data = .cell (some (.int cut tc))) (qn : on.data = .cell (some (.int count tn))) (q3 : o3.data = .cell (some (.ref S)))
   (b : Array UInt8) (tb : Tok) (own : Str) (to tg t0 t1 t2 t3 : Tok) (c' d q k : Nat) (a0 a1 a2 a3 : Int) (sp : List Value) (zs : List Int) (hq : cut = (q : Int)) (hq16 : q < 16) (hk : count = (k : Int)) (hk0 : 0 < k) (hk12 : k ≤ 12) (hsp : IntsAre sp zs) (hzs : zs = (List.range k).map fun i : Nat => revF (i : Int))
   (e0 : a0 = cntF q 2 k) (e1 : a1 = cntF q 4 k) (e2 : a2 = cntF q 8 k) (e3 : a3 = cntF q 16 k)
   (F : Fr s₁.heap L s.heap m) (hm : ∀ q ∈ (Str.ofString "inside", Value.ref I) :: nmF D LB H R C sm mk tm b tb own to goal tg, m q.1 = some q.2) (N : News s₁.heap L s.heap [(I, listOf #[.int a0 t0, .int a1 t1, .int a2 t2, .int a3 t3] c'), (C, oC), (S, listOf sp.toArray d), (R, oR), (H, oH), (LB, oLB), (L + 1 + 1 + 1, o3), (L + 1 + 1, oc), (L + 1, on)])
   (l1 : @Ne Nat (L + 1 + 1 + 1) LB) (l1b : @Ne Nat (L + 1 + 1) LB) (l1c : @Ne Nat (L + 1) LB) (l4 : @LT.lt Nat _ (L + 1 + 1 + 1) H) (l2 : @LT.lt Nat _ LB H) (l3 : @LT.lt Nat _ H R) (l5 : @LT.lt Nat _ R S) (l6 : @LT.lt Nat _ S C) (l7 : @LT.lt Nat _ C I) (Q : Flow → Shared → Prop)
   (fin : ∀ (h : Heap) (tk : Nat) (m1 : Str → Option Value), Fr s₁.heap L h m1 → Q (.ret (.bool true)) { s with heap := h, toks := tk }) :
   wpAny (model PySem.Challenge.rw_zo0021_01.row.prog w) (callerA.deeper (lawEnv L)) (execs ((lawBody.drop 25).take 5) (lawEnv L)) Q (fun _ _ => False) s := by
  w_top off
  subst hq
  revert KX; k_fill; intro KX
  have K0 := below_caller s₁.heap
  replace F := fr_names _ hm F
  conv in List.take _ _ => arg 2; whnf
  simp only [List.take_succ_cons, List.take_zero]
  dsimp only [lawEnv]
  have eS : lawScope = lawScope := rfl
  conv at eS => rhs; whnf
  rw [eS]
  clear eS
  with_reducible show wpAny _ _ _ _ _ _
  (try k_fold)
  have f0 := e0.trans (cnt2 k (by omega) q hq16)
  have f1 := e1.trans (cnt4 k (by omega) q hq16)
  have f2 := e2.trans (cnt8 k (by omega) q hq16)
  have f3 := e3.trans (cnt16 k (by omega) q hq16)
  clear e0 e1 e2 e3
  subst hk
  k_steps
  refine Halt.mk ?_
  refine CompSrcT.intro (by rfl) (by k_asm) (by k_asm) (by k_mem) (by exact Nat.le_of_ble_eq_true rfl) ?_
  intro g'
  lcg_lit
  refine kcf_rest (ks := [2, 4, 8, 16]) (gF k q) rfl ?_ ?_ ?_
  · intro i v hi hv
    exact four_at i v _ _ _ _ hi hv
  · intro kk t' I' oI' C' oC' D' m' ys' h' tk' E' hk' hC' hx' F' N' off' ne' hMark'
    have hk0 : 0 < kk := by
      simp only [List.mem_cons, List.not_mem_nil, or_false] at hk'
      omega
    (try simp only [LCg.Off3, and_true] at off')
    (try k_fold)
    k_steps
    all_goals (exfalso; omega)
  · show ∀ ys, IntsAre ys [gF k q 2, gF k q 4, gF k q 8, gF k q 16] → _
    intro ys hys
    rcases hys with _ | ⟨_, v0, hys⟩
    rcases hys with _ | ⟨_, v1, hys⟩
    rcases hys with _ | ⟨_, v2, hys⟩
    rcases hys with _ | ⟨_, v3, hys⟩
    cases hys
    unfold LCg.FinE
    intro D' h' tk' F' N' o1'
    (try simp only [LCg.Off1, and_true] at o1')
    k_steps
    refine Halt.mk ?_
    have hsr := srt_fact k (by omega)
    have hgn := gain_fact k (by omega) hk0
    have hgl : lackF k = 16 * (k : Int) - 2 * (srtF k).sum := rfl
    generalize hG : (rangeKs 0 k).map (g2 k) = gs at hgn
    generalize hW : lackF k = lk at hgn hgl
    generalize hR2 : lk - 16 = lm at hgn
    refine' sortE ?sF9 ?sN9 ?sU9 hsp ?sz9 ?sp9 hsr.2.1 ?_
    case sF9 => k_asm
    case sN9 => k_asm
    case sU9 => intro o'; k_upd
    case sz9 => rw [hzs, List.length_map, List.length_range]; omega
    case sp9 => rw [hzs]; exact hsr.1
    intro vs2 c2 h2 F2 N2 hi2
    have hl3 := hsr.2.2
    clear N' F'
    (try dsimp only [List.cons_append, List.nil_append] at N2)
    obtain ⟨g1, g2, g3, g4, g5⟩ := hgn
    k_steps
    refine Halt.mk ?_
    refine LCg.CompSrc.range (n := k) (by rfl) (by k_asm) (by k_asm) (by assumption) (rgC k (by omega)).1 (rgC k (by omega)).2 (by rw [sizeLine_eq]; omega) ?_
    intro g''
    refine kcf_range (Mine.g2 k) ?_ ?_
    · intro kk t' I' oI' C' oC' D' m' ys' h' tk' E' hlo' hhi' hC' hx' F' N' off' ne' hMark'
      (try simp only [LCg.Off3, and_true] at off')
      (try k_fold)
      k_steps
    · show ∀ ys, IntsAre ys ((rangeKs 0 k).map (Mine.g2 k)) → _
      intro ys hys
      rw [hG] at hys
      unfold LCg.FinA
      intro D' h' tk' F' N' o1'
      (try simp only [LCg.Off1, and_true] at o1')
      k_steps
      all_goals (first
        | (have e9 : (16 * (k : Int) - 2 * (srtF k).sum == mostF (k : Int)) = true := beq_iff_eq.mpr (hgl.symm.trans g5)
           rw [e9]
           rename Fr _ _ _ _ => F9
           exact fin _ _ _ F9)
        | (have e9 : (lm + 16 == 16 * (k : Int) - 2 * (srtF k).sum) = true := beq_iff_eq.mpr (by omega)
           rw [e9]
           rename Fr _ _ _ _ => F9
           exact fin _ _ _ F9))
end Mine
end
section
open PySem PySem.W PyProof.Rows PySem.Calls
namespace Mine
set_option maxRecDepth 100000
set_option maxHeartbeats 8000000
def S (l : List Nat) : Str := ⟨l.toArray⟩
theorem S_len (l : List Nat) : (S l).length = l.length := by simp [S, Str.length]
theorem S_app (a b : List Nat) : S (a ++ b) = S a ++ S b := Str.ext' (by simp [S, Str.cps_append])
theorem S_inj {a b : List Nat} (h : S a = S b) : a = b := by simpa [S] using h
theorem dot_S : Str.ofString "." = S [46] := by decide +kernel
theorem local_S : Str.ofString "local" = S [108, 111, 99, 97, 108] := by decide +kernel
theorem slice_S (p r : List Nat) : Txt.slice (S (p ++ r)) (some (p.length : Int)) none = S r := by
  rw [slice_from_eq (b := ((p ++ r).length : Int)) (by omega) (by rw [S_len, List.length_append]; omega) (by rw [S_len])]
  have e : (((p ++ r).length : Int) - (p.length : Int)).toNat = r.length := by rw [List.length_append]; omega
  rw [e]
  simp [S]
theorem slice_to_S (p r : List Nat) {k : Int} (hk : k = -(r.length : Int)) (hr : 0 < r.length) : Txt.slice (S (p ++ r)) none (some k) = S p := by
  subst hk
  rw [slice_to_neg (by omega)]
  have e : max (0 : Int) (((S (p ++ r)).length : Int) + -(r.length : Int)) = (p.length : Int) := by rw [S_len, List.length_append]; omega
  rw [e]
  have h := slice_closes_to (x := S (p ++ r)) (j := (p.length : Int)) ⟨by omega, by simp [S]; omega⟩
  rw [eq_of_beq h]
  simp [S]
theorem at_S (l m : List Nat) (i : Nat) : StrLaws.At (S l) (S m) (S l).length i ↔ m <+: l.drop i ∧ i + m.length ≤ l.length := by
  unfold StrLaws.At Builtin.Str.subAt
  rw [S_len, S_len, List.prefix_iff_eq_take]
  constructor
  · rintro ⟨h1, h2⟩
    refine ⟨?_, h1⟩
    have h3 := eq_of_beq h2
    have h4 := congrArg Array.toList h3
    simp [S] at h4
    exact h4.symm
  · rintro ⟨h1, h2⟩
    refine ⟨h2, ?_⟩
    rw [beq_iff_eq]
    apply Array.toList_inj.mp
    simp [S]
    exact h1.symm
theorem at_dot (l : List Nat) (i : Nat) : StrLaws.At (S l) (S [46]) (S l).length i ↔ l[i]? = some 46 := by
  rw [at_S]
  constructor
  · rintro ⟨⟨t, h⟩, h2⟩
    have : (l.drop i)[0]? = some 46 := by rw [← h]; rfl
    simpa using this
  · intro h
    obtain ⟨hi, e⟩ := List.getElem?_eq_some_iff.mp h
    refine ⟨⟨l.drop (i + 1), ?_⟩, by simp; omega⟩
    rw [List.drop_eq_getElem_cons hi, e]
    rfl
theorem find_S (p b : List Nat) (h : 46 ∉ p) : Txt.find (S (p ++ 46 :: b)) (Str.ofString ".") = (p.length : Int) := by
  rw [dot_S]
  have hat : StrLaws.At (S (p ++ 46 :: b)) (S [46]) (S (p ++ 46 :: b)).length p.length := (at_dot _ _).mpr (by simp)
  unfold Txt.find
  rcases StrLaws.occ_head (S (p ++ 46 :: b)) (S [46]) 1 (Nat.le_refl _) with ⟨e, hn⟩ | ⟨i, r, e, hi, hlt⟩
  · exact absurd hat (hn _)
  · rw [e]
    have h1 : ¬ p.length < i := fun hl => hlt _ hl hat
    have h2 : ¬ i < p.length := fun hl => by
      have := (at_dot _ _).mp hi
      rw [List.getElem?_append_left hl] at this
      exact h (List.mem_of_getElem? this)
    show (i : Int) = _
    omega
theorem find_no {l : List Nat} (h : 46 ∉ l) : Txt.find (S l) (Str.ofString ".") = -1 := by
  rw [dot_S]
  unfold Txt.find
  rcases StrLaws.occ_head (S l) (S [46]) 1 (Nat.le_refl _) with ⟨e, hn⟩ | ⟨i, r, e, hi, hlt⟩
  · rw [e]
  · exact absurd (List.mem_of_getElem? ((at_dot _ _).mp hi)) h
theorem find_in {l : List Nat} (h : 46 ∈ l) : 0 ≤ Txt.find (S l) (Str.ofString ".") := by
  rw [dot_S]
  obtain ⟨i, hi⟩ := List.getElem?_of_mem h
  have hat := (at_dot _ _).mpr hi
  unfold Txt.find
  rcases StrLaws.occ_head (S l) (S [46]) 1 (Nat.le_refl _) with ⟨e, hn⟩ | ⟨i, r, e, hi, hlt⟩
  · exact absurd hat (hn _)
  · rw [e]
    show (0 : Int) ≤ (i : Int)
    omega
theorem reach_S {p b : List Nat} (h : 46 ∉ p) (h1 : isHDN (S (p ++ 46 :: b)) = true) (h2 : 46 ∈ b ∨ b = [108, 111, 99, 97, 108]) : reachF (S (p ++ 46 :: b)) = S (46 :: b) := by
  have e := slice_S (p ++ [46]) b
  rw [List.length_append, List.append_assoc, List.singleton_append] at e
  have e2 : Txt.slice (S (p ++ 46 :: b)) (some (Txt.find (S (p ++ 46 :: b)) (Str.ofString ".") + 1)) none = S b := by
    rw [find_S p b h]; exact e
  unfold reachF
  rw [e2, find_S p b h, if_pos (by omega), if_pos, dot_S, ← S_app]
  · rfl
  · refine ⟨h1, ?_⟩
    rcases h2 with h2 | h2
    · exact .inl (find_in h2)
    · exact .inr (by rw [h2, local_S])
theorem reach_no {p b : List Nat} (h : 46 ∉ p) (h1 : isHDN (S (p ++ 46 :: b)) = false ∨ (46 ∉ b ∧ b ≠ [108, 111, 99, 97, 108])) : reachF (S (p ++ 46 :: b)) = S (p ++ 46 :: b) := by
  have e := slice_S (p ++ [46]) b
  rw [List.length_append, List.append_assoc, List.singleton_append] at e
  have e2 : Txt.slice (S (p ++ 46 :: b)) (some (Txt.find (S (p ++ 46 :: b)) (Str.ofString ".") + 1)) none = S b := by
    rw [find_S p b h]; exact e
  unfold reachF
  rw [e2, find_S p b h, if_pos (by omega), if_neg]
  rintro ⟨h3, h4⟩
  rcases h1 with h1 | ⟨h1, h5⟩
  · rw [h1] at h3; cases h3
  · rcases h4 with h4 | h4
    · rw [find_no h1] at h4; omega
    · rw [local_S] at h4; exact h5 (S_inj h4)
/-- stands `m` at the head of `l`? -/
def preL : List Nat → List Nat → Bool
  | [], _ => true
  | _ :: _, [] => false
  | x :: r, y :: t => Nat.beq x y && preL r t
/-- stands `m` anywhere in `l`? -/
def hasL (m : List Nat) : List Nat → Bool
  | [] => preL m []
  | c :: r => preL m (c :: r) || hasL m r
theorem preL_iff : ∀ m l : List Nat, preL m l = true ↔ m <+: l
  | [], l => by simp [preL]
  | x :: r, [] => by simp [preL]
  | x :: r, y :: t => by
    rw [List.cons_prefix_cons, ← preL_iff r t]
    simp [preL]
theorem hasL_iff (m : List Nat) : ∀ l : List Nat, hasL m l = true ↔ ∃ i, m <+: l.drop i
  | [] => by
    rw [hasL, preL_iff]
    exact ⟨fun h => ⟨0, h⟩, fun ⟨i, h⟩ => by simpa using h⟩
  | c :: r => by
    rw [hasL, Bool.or_eq_true, preL_iff, hasL_iff m r]
    constructor
    · rintro (h | ⟨i, h⟩)
      · exact ⟨0, h⟩
      · exact ⟨i + 1, h⟩
    · rintro ⟨_ | i, h⟩
      · exact .inl h
      · exact .inr ⟨i, h⟩
theorem rfind_S (c : Nat) (r m : List Nat) (hm : 0 < m.length) : (Txt.rfind (S (c :: r)) (S m) = -1 ∨ Txt.rfind (S (c :: r)) (S m) = 0) ↔ hasL m r = false := by
  have fits : ∀ i, m <+: (c :: r).drop i → i + m.length ≤ (c :: r).length := fun i h => by
    have := h.length_le
    rw [List.length_drop] at this
    omega
  have key : hasL m r = true ↔ ∃ i, 0 < i ∧ StrLaws.At (S (c :: r)) (S m) (S (c :: r)).length i := by
    rw [hasL_iff]
    constructor
    · rintro ⟨i, h⟩
      exact ⟨i + 1, by omega, (at_S _ _ _).mpr ⟨h, fits (i + 1) h⟩⟩
    · rintro ⟨_ | i, h0, h⟩
      · exact absurd h0 (Nat.lt_irrefl _)
      · exact ⟨i, ((at_S _ _ _).mp h).1⟩
  unfold Txt.rfind
  rcases StrLaws.last_spec (S (c :: r)) (S m) with ⟨e, hn⟩ | ⟨i, e, hi, hlt⟩
  · rw [e]
    refine ⟨fun _ => ?_, fun _ => .inl rfl⟩
    rw [← Bool.not_eq_true, key]
    rintro ⟨i, _, h⟩
    exact hn i h
  · rw [e]
    rw [← Bool.not_eq_true, key]
    constructor
    · rintro (h | h) ⟨k, hk, hA⟩
      · have : (i : Int) = -1 := h
        omega
      · have h' : (i : Int) = 0 := h
        exact hlt k (by omega) hA
    · intro h
      refine .inr ?_
      show (i : Int) = 0
      rcases Nat.eq_zero_or_pos i with h0 | h0
      · omega
      · exact absurd ⟨i, h0, hi⟩ h
theorem starts_S (m : List Nat) : Txt.startswith (S (46 :: m)) (Str.ofString ".") = true := by
  rw [dot_S]
  have h := (at_dot (46 :: m) 0).mpr rfl
  unfold Txt.startswith
  rw [Bool.and_eq_true]
  exact ⟨decide_eq_true h.1, h.2⟩
theorem starts_no {x : Nat} (m : List Nat) (hx : x ≠ 46) : Txt.startswith (S (x :: m)) (Str.ofString ".") = false := by
  rw [dot_S, ← Bool.not_eq_true]
  intro h
  unfold Txt.startswith at h
  rw [Bool.and_eq_true] at h
  have h2 := (at_dot (x :: m) 0).mp ⟨of_decide_eq_true h.1, h.2⟩
  exact hx (Option.some.inj h2)
theorem dm_S {A B : Str} {c : Nat} {r m : List Nat} (hA : Txt.lower A = S (c :: r)) (hB : Txt.lower B = S (46 :: m)) (hc : c ≠ 46) (h1 : isHDN (S (c :: r)) = true) (h2 : isHDN (S m) = true) : dmF A B = hasL (46 :: m) r := by
  have hne : S (c :: r) ≠ S (46 :: m) := fun h => by
    have := S_inj h
    exact hc (List.cons.inj this).1
  unfold dmF
  rw [hA, hB, if_neg hne, if_pos h1, starts_S, if_pos rfl, show Txt.slice (S (46 :: m)) (some 1) none = S m from slice_S [46] m, h2]
  have hk := rfind_S c r (46 :: m) (by simp)
  cases e : hasL (46 :: m) r with
  | false => rw [if_pos (hk.mpr e)]
  | true => rw [if_neg]; intro h; rw [hk.mp h] at e; cases e
theorem dm_no {A B : Str} {x : Nat} {a m : List Nat} (hA : Txt.lower A = S a) (hB : Txt.lower B = S (x :: m)) (hx : x ≠ 46) (hne : a ≠ x :: m) : dmF A B = false := by
  unfold dmF
  rw [hA, hB, if_neg (fun h => hne (S_inj h)), starts_no m hx]
  split
  · split
    · rfl
    · rfl
  · rfl
theorem dm_no1 {A B : Str} {a b : List Nat} (hA : Txt.lower A = S a) (hB : Txt.lower B = S b) (hne : a ≠ b) (h1 : isHDN (S a) = false) : dmF A B = false := by
  unfold dmF
  rw [hA, hB, if_neg (fun h => hne (S_inj h)), h1]
  rfl
theorem dm_same {A B : Str} (h : Txt.lower A = Txt.lower B) : dmF A B = true := by
  unfold dmF
  rw [if_pos h]
end Mine
end
section
open PySem PySem.W PyProof.Rows PySem.Calls
namespace Mine
set_option maxRecDepth 100000
set_option maxHeartbeats 8000000
def upC (c : Nat) : Nat := if Nat.ble 97 c && Nat.ble c 122 then c - 32 else c
def loC (c : Nat) : Nat := if Nat.ble 65 c && Nat.ble c 90 then c + 32 else c
theorem up_tab : ∀ c : Nat, c < 123 → Unicode.upperOf c = [upC c] := by decide +kernel
theorem lo_tab : ∀ c : Nat, c < 123 → Unicode.lowerOf c = [loC c] := by decide +kernel
theorem upper_S : ∀ {l : List Nat}, (∀ c ∈ l, c < 123) → Txt.upper (S l) = S (l.map upC)
  | [], _ => rfl
  | c :: l, h => by
    have e : S (c :: l) = S [c] ++ S l := S_app [c] l
    rw [e, KOpn.upper_app, upper_S (fun x hx => h x (.tail _ hx)), List.map_cons, show S (upC c :: l.map upC) = S [upC c] ++ S (l.map upC) from S_app [upC c] (l.map upC)]
    congr 1
    apply Str.ext'
    show placed (S [c]) (fun _ c => Unicode.upperOf c) = _
    simp [placed, S, up_tab c (h c (.head _))]
theorem lower_plain (x : Str) (h : ∀ c ∈ x.cps.toList, c < 123) : Txt.lower x = ⟨placed x fun _ c => Unicode.lowerOf c⟩ := by
  apply Str.ext'
  show placed x (fun i _ => Unicode.lowerAt x.cps i) = placed x fun _ c => Unicode.lowerOf c
  unfold placed
  congr 1
  apply Array.ext
  · simp
  · intro i h1 h2
    have hi : i < x.cps.size := by simpa using h1
    simp only [Array.getElem_mapIdx]
    have hc : x.cps[i] < 123 := h _ (Array.getElem_mem_toList hi)
    unfold Unicode.lowerAt
    rw [Array.getElem?_eq_getElem hi]
    have hne : (x.cps[i] == 931) = false := by rw [beq_eq_false_iff_ne]; omega
    simp only [hne, Bool.false_and, Bool.false_eq_true, if_false]
theorem placed_lo : ∀ {l : List Nat}, (∀ c ∈ l, c < 123) → (⟨placed (S l) fun _ c => Unicode.lowerOf c⟩ : Str) = S (l.map loC)
  | [], _ => rfl
  | c :: l, h => by
    have e : S (c :: l) = S [c] ++ S l := S_app [c] l
    have ih := placed_lo (l := l) (fun x hx => h x (.tail _ hx))
    apply Str.ext'
    rw [e]
    show placed (S [c] ++ S l) (fun _ c => Unicode.lowerOf c) = _
    rw [KOpn.placed_app, show placed (S l) (fun _ c => Unicode.lowerOf c) = (S (l.map loC)).cps from congrArg Str.cps ih]
    simp [placed, S, lo_tab c (h c (.head _))]
theorem lower_S {l : List Nat} (h : ∀ c ∈ l, c < 123) : Txt.lower (S l) = S (l.map loC) := by
  rw [lower_plain (S l) (by simpa [S] using h), placed_lo h]
end Mine
end
section
open PySem PySem.W PyProof.Rows PySem.Calls
namespace Mine
set_option maxRecDepth 100000
set_option maxHeartbeats 8000000
def la : Nat → List Nat
  | 0 => [97]
  | 1 => [66, 97]
  | 2 => [55]
  | _ => [120]
def lb : Nat → List Nat
  | 0 => [66, 97]
  | 1 => [97]
  | 2 => [97, 55]
  | _ => [121]
def pkL (z p : Nat) : List Nat := match p % 2 with
  | 0 => la z
  | _ => lb z
def ftpL : List Nat := [102, 116, 112]
def locL : List Nat := [108, 111, 99, 97, 108]
def sufL (z p : Nat) : Nat → List Nat
  | 0 => locL
  | j + 1 => pkL z (p / 2 ^ j) ++ 46 :: sufL z p j
def hostL (z p : Nat) : List Nat := ftpL ++ 46 :: sufL z p 4
def midL (z p : Nat) : List Nat := pkL z (p / 8) ++ 46 :: (pkL z (p / 4) ++ 46 :: (pkL z (p / 2) ++ 46 :: pkL z p))
def bareL (z p : Nat) : List Nat := ftpL ++ 46 :: midL z p
def nmL (z p : Nat) : Bool := !(pkL z p == [55])
theorem pk_tab : ∀ z : Nat, z < 4 → ∀ p : Nat, p < 16 → (pk (labA (z : Int)) (labB (z : Int)) ((p : Int).fmod 2)).cps.toList = pkL z p := by decide +kernel
theorem host_tab : ∀ z : Nat, z < 4 → ∀ p : Nat, p < 16 → (hostF (labA (z : Int)) (labB (z : Int)) (p : Int)).cps.toList = hostL z p := by decide +kernel
theorem suf_mod : ∀ z : Nat, z < 4 → ∀ p : Nat, p < 16 → ∀ j : Nat, j < 5 → sufL z p j = sufL z (p % 2 ^ j) j := by decide +kernel
theorem host_bare : ∀ z : Nat, z < 4 → ∀ p : Nat, p < 16 → hostL z p = bareL z p ++ 46 :: locL := by decide +kernel
theorem host_fit : ∀ z : Nat, z < 4 → ∀ p : Nat, p < 16 → (hostL z p).all (fun c => Nat.blt c 123) = true ∧ (hostL z p).length ≤ 30 ∧ hostL z p = ftpL ++ 46 :: sufL z p 4 := by decide +kernel
theorem dot_no : ∀ z : Nat, z < 4 → ∀ p : Nat, p < 16 → 46 ∉ pkL z p ∧ 46 ∉ (pkL z p).map upC := by decide +kernel
theorem hd_suf : ∀ z : Nat, z < 4 → ∀ j : Nat, j < 4 → ∀ r : Nat, r < 2 ^ (j + 1) → isHDN (S (sufL z r (j + 1))) = true ∧ isHDN (S ((sufL z r (j + 1)).map upC)) = true ∧ isHDN (S ((sufL z r (j + 1)).map loC)) = true := by decide +kernel
theorem hd_host : ∀ z : Nat, z < 4 → ∀ p : Nat, p < 16 → isHDN (S (hostL z p)) = true ∧ isHDN (S ((hostL z p).map upC)) = true ∧ isHDN (S ((hostL z p).map loC)) = true := by decide +kernel
theorem hd_bare : ∀ z : Nat, z < 4 → ∀ p : Nat, p < 16 → isHDN (S (bareL z p)) = nmL z p ∧ isHDN (S ((bareL z p).map loC)) = nmL z p ∧ isHDN (S ((midL z p).map loC)) = nmL z p := by decide +kernel
theorem has_1 : ∀ z : Nat, z < 4 → ∀ i : Nat, i < 12 → ∀ r : Nat, r < 2 → hasL (46 :: (sufL z r 1).map loC) ((hostL z i).map loC).tail = decide (i % 2 = r) := by decide +kernel
theorem has_2 : ∀ z : Nat, z < 4 → ∀ i : Nat, i < 12 → ∀ r : Nat, r < 4 → hasL (46 :: (sufL z r 2).map loC) ((hostL z i).map loC).tail = decide (i % 4 = r) := by decide +kernel
theorem has_3 : ∀ z : Nat, z < 4 → ∀ i : Nat, i < 12 → ∀ r : Nat, r < 8 → hasL (46 :: (sufL z r 3).map loC) ((hostL z i).map loC).tail = decide (i % 8 = r) := by decide +kernel
theorem has_4 : ∀ z : Nat, z < 4 → ∀ i : Nat, i < 12 → ∀ r : Nat, r < 16 → hasL (46 :: (sufL z r 4).map loC) ((hostL z i).map loC).tail = decide (i % 16 = r) := by decide +kernel
theorem has_b : ∀ z : Nat, z < 4 → ∀ p : Nat, p < 16 → hasL (46 :: (midL z p).map loC) ((bareL z p).map loC).tail = true ∧ hasL (46 :: locL) ((hostL z p).map loC).tail = true := by decide +kernel
end Mine
end
section
open PySem PySem.W PyProof.Rows PySem.Calls
namespace Mine
set_option maxRecDepth 100000
set_option maxHeartbeats 8000000
theorem str_of {x : Str} {l : List Nat} (h : x.cps.toList = l) : x = S l := Str.ext' (by simp [S, ← h])
theorem pk_S {z : Nat} (hz : z < 4) {p : Nat} (hp : p < 16) : pk (labA (z : Int)) (labB (z : Int)) ((p : Int).fmod 2) = S (pkL z p) := str_of (pk_tab z hz p hp)
theorem host_S {z : Nat} (hz : z < 4) {p : Nat} (hp : p < 16) : hostF (labA (z : Int)) (labB (z : Int)) (p : Int) = S (hostL z p) := str_of (host_tab z hz p hp)
theorem host_c {z : Nat} (hz : z < 4) {p : Nat} (hp : p < 16) : ∀ c ∈ hostL z p, c < 123 := fun c hc => by
  have := List.all_eq_true.mp (host_fit z hz p hp).1 c hc
  exact Nat.blt_eq.mp this
theorem suf_step (z p j : Nat) (c : Nat) (h : c ∈ sufL z p j) : c ∈ sufL z p (j + 1) := List.mem_append.mpr (.inr (.tail _ h))
theorem suf_sub (z p j : Nat) (hj : j ≤ 4) (c : Nat) (h : c ∈ sufL z p j) : c ∈ hostL z p := by
  have h4 : c ∈ sufL z p 4 := by
    rcases j with _ | _ | _ | _ | _ | j
    · exact suf_step z p 3 c (suf_step z p 2 c (suf_step z p 1 c (suf_step z p 0 c h)))
    · exact suf_step z p 3 c (suf_step z p 2 c (suf_step z p 1 c h))
    · exact suf_step z p 3 c (suf_step z p 2 c h)
    · exact suf_step z p 3 c h
    · exact h
    · omega
  exact List.mem_append.mpr (.inr (.tail _ h4))
theorem suf_c {z : Nat} (hz : z < 4) {p : Nat} (hp : p < 16) {j : Nat} (hj : j ≤ 4) : ∀ c ∈ sufL z p j, c < 123 := fun c hc => host_c hz hp c (suf_sub z p j hj c hc)
theorem suf_grow (z p j : Nat) : (sufL z p j).length ≤ (sufL z p (j + 1)).length := by rw [sufL.eq_2 z p j]; simp only [List.length_append, List.length_cons]; omega
theorem suf_len (z p j : Nat) (hj : j ≤ 4) : (sufL z p j).length ≤ (hostL z p).length := by
  have h4 : (sufL z p 4).length ≤ (hostL z p).length := by unfold hostL; simp only [List.length_append, List.length_cons]; omega
  have h3 := Nat.le_trans (suf_grow z p 3) h4
  have h2 := Nat.le_trans (suf_grow z p 2) h3
  have h1 := Nat.le_trans (suf_grow z p 1) h2
  have h0 := Nat.le_trans (suf_grow z p 0) h1
  rcases j with _ | _ | _ | _ | _ | j
  · exact h0
  · exact h1
  · exact h2
  · exact h3
  · exact h4
  · omega
theorem hd_sufp {z : Nat} (hz : z < 4) {p : Nat} (hp : p < 16) {j : Nat} (hj : j < 4) : isHDN (S (sufL z p (j + 1))) = true ∧ isHDN (S ((sufL z p (j + 1)).map upC)) = true ∧ isHDN (S ((sufL z p (j + 1)).map loC)) = true := by
  rw [suf_mod z hz p hp (j + 1) (by omega)]
  exact hd_suf z hz j hj _ (Nat.mod_lt _ (Nat.two_pow_pos _))
theorem pk_dot {z : Nat} (hz : z < 4) {p : Nat} (hp : p < 16) (j : Nat) : 46 ∉ pkL z (p / 2 ^ j) ∧ 46 ∉ (pkL z (p / 2 ^ j)).map upC := dot_no z hz _ (Nat.lt_of_le_of_lt (Nat.div_le_self _ _) hp)
/-- the text as it is written, or in great letters -/
def vU (sm : Bool) (l : List Nat) : List Nat := if sm = true then l else l.map upC
theorem vU_len (sm : Bool) (l : List Nat) : (vU sm l).length = l.length := by cases sm <;> simp [vU]
theorem vU_app (sm : Bool) (a b : List Nat) : vU sm (a ++ 46 :: b) = vU sm a ++ 46 :: vU sm b := by cases sm <;> simp [vU, upC]
def cF (sm : Bool) (z p : Nat) (i : Nat) : Str := if i = 4 then (if sm = true then S (46 :: locL) else S ((sufL z p 1).map upC)) else S (46 :: vU sm (sufL z p (4 - i)))
def bF (sm : Bool) (z p : Nat) : Nat → Str
  | 0 => S (vU sm (hostL z p))
  | i + 1 => if i = 4 then Txt.slice (cF sm z p 4) (some 1) none else S (vU sm (sufL z p (4 - i)))
theorem vU_hd {z : Nat} (hz : z < 4) {p : Nat} (hp : p < 16) (sm : Bool) {j : Nat} (hj : j < 4) : isHDN (S (vU sm (sufL z p (j + 1)))) = true := by
  cases sm
  · exact (hd_sufp hz hp hj).2.1
  · exact (hd_sufp hz hp hj).1
theorem vU_dot {z : Nat} (hz : z < 4) {p : Nat} (hp : p < 16) (sm : Bool) (j : Nat) : 46 ∉ vU sm (pkL z (p / 2 ^ j)) := by
  cases sm
  · exact (pk_dot hz hp j).2
  · exact (pk_dot hz hp j).1
theorem reach_suf {z : Nat} (hz : z < 4) {p : Nat} (hp : p < 16) (sm : Bool) {j : Nat} (hj : j < 4) (h : 0 < j ∨ sm = true) : reachF (S (vU sm (sufL z p (j + 1)))) = S (46 :: vU sm (sufL z p j)) := by
  have hh := vU_hd hz hp sm hj
  rw [sufL.eq_2, vU_app] at hh ⊢
  refine reach_S (vU_dot hz hp sm j) hh ?_
  rcases j with _ | j
  · rcases h with h | h
    · exact absurd h (Nat.lt_irrefl _)
    · subst h
      exact .inr rfl
  · rw [sufL.eq_2, vU_app]
    exact .inl (List.mem_append.mpr (.inr (.head _)))
theorem low_1 : ∀ z : Nat, z < 4 → ∀ p : Nat, p < 16 → (((sufL z p 1).map upC).map loC).head? ≠ some 46 ∧ (((sufL z p 1).map upC).map loC).head?.getD 102 ≠ 102 ∧ ((sufL z p 1).map upC).all (fun c => Nat.blt c 123) = true := by decide +kernel
theorem hd_loc : isHDN (S locL) = true := by decide +kernel
theorem upper_loc : locL.map upC = [76, 79, 67, 65, 76] := by decide
theorem climb_ok {z : Nat} (hz : z < 4) {p : Nat} (hp : p < 16) (sm : Bool) : Climb (hostF (labA (z : Int)) (labB (z : Int)) (p : Int)) (pk (labA (z : Int)) (labB (z : Int)) ((p : Int).fmod 2)) sm (bF sm z p) (cF sm z p) where
  e0 := by
    rw [host_S hz hp]
    cases sm
    · exact (upper_S (host_c hz hp)).symm
    · rfl
  r := fun i hi => by
    rcases i with _ | _ | _ | _ | _ | i
    · show reachF (S (vU sm (hostL z p))) = S (46 :: vU sm (sufL z p 4))
      have hh : isHDN (S (vU sm (hostL z p))) = true := by
        cases sm
        · exact (hd_host z hz p hp).2.1
        · exact (hd_host z hz p hp).1
      unfold hostL at hh ⊢
      rw [vU_app] at hh ⊢
      refine reach_S (by cases sm <;> decide) hh (.inl ?_)
      rw [sufL.eq_2, vU_app]
      exact List.mem_append.mpr (.inr (.head _))
    · exact reach_suf hz hp sm (j := 3) (by omega) (.inl (by omega))
    · exact reach_suf hz hp sm (j := 2) (by omega) (.inl (by omega))
    · exact reach_suf hz hp sm (j := 1) (by omega) (.inl (by omega))
    · cases sm
      · show reachF (S ((sufL z p 1).map upC)) = S ((sufL z p 1).map upC)
        rw [sufL.eq_2, List.map_append, List.map_cons]
        exact reach_no (p := (pkL z (p / 2 ^ 0)).map upC) (b := locL.map upC) (pk_dot hz hp 0).2 (.inr (by rw [upper_loc]; decide))
      · exact reach_suf hz hp true (j := 0) (by omega) (.inr rfl)
    · omega
  s := fun i hi => by
    rcases i with _ | _ | _ | _ | _ | i
    · exact slice_S [46] _
    · exact slice_S [46] _
    · exact slice_S [46] _
    · exact slice_S [46] _
    · rfl
    · omega
  zo := by
    rw [host_S hz hp, S_len]
    have := (host_fit z hz p hp).2.1
    omega
  zb := fun i hi => by
    have h0 := (host_fit z hz p hp).2.1
    have h1 := suf_len z p 1 (by omega)
    have h2 := suf_len z p 2 (by omega)
    have h3 := suf_len z p 3 (by omega)
    have h4 := suf_len z p 4 (by omega)
    rcases i with _ | _ | _ | _ | _ | _ | i
    · show (S _).length ≤ 50; rw [S_len, vU_len]; omega
    · show (S _).length ≤ 50; rw [S_len, vU_len]; show (sufL z p 4).length ≤ _; omega
    · show (S _).length ≤ 50; rw [S_len, vU_len]; show (sufL z p 3).length ≤ _; omega
    · show (S _).length ≤ 50; rw [S_len, vU_len]; show (sufL z p 2).length ≤ _; omega
    · show (S _).length ≤ 50; rw [S_len, vU_len]; show (sufL z p 1).length ≤ _; omega
    · refine Nat.le_trans (PyProof.Txt.length_slice_le _ _ _) ?_
      cases sm
      · show (S _).length ≤ 50; rw [S_len, List.length_map]; omega
      · show (S _).length ≤ 50; rw [S_len]; decide
    · omega
  zc := fun i hi => by
    have h0 := (host_fit z hz p hp).2.1
    have h1 := suf_len z p 1 (by omega)
    have h2 := suf_len z p 2 (by omega)
    have h3 := suf_len z p 3 (by omega)
    have h4 := suf_len z p 4 (by omega)
    rcases i with _ | _ | _ | _ | _ | i
    · show (S _).length ≤ 50; rw [S_len, List.length_cons, vU_len]; show (sufL z p 4).length + 1 ≤ _; omega
    · show (S _).length ≤ 50; rw [S_len, List.length_cons, vU_len]; show (sufL z p 3).length + 1 ≤ _; omega
    · show (S _).length ≤ 50; rw [S_len, List.length_cons, vU_len]; show (sufL z p 2).length + 1 ≤ _; omega
    · show (S _).length ≤ 50; rw [S_len, List.length_cons, vU_len]; show (sufL z p 1).length + 1 ≤ _; omega
    · cases sm
      · show (S _).length ≤ 50; rw [S_len, List.length_map]; omega
      · show (S _).length ≤ 50; rw [S_len]; decide
    · omega
  top := by
    cases sm
    · show S ((sufL z p 1).map upC) = Txt.upper _ ++ Str.ofString ".LOCAL"
      rw [pk_S hz hp, upper_S (fun c hc => suf_c hz hp (j := 1) (by omega) c (List.mem_append.mpr (.inl (by rw [Nat.pow_zero, Nat.div_one]; exact hc)))), show Str.ofString ".LOCAL" = S (46 :: locL.map upC) from by decide +kernel, ← S_app]
      rw [sufL.eq_2, List.map_append, List.map_cons, Nat.pow_zero, Nat.div_one]
      rfl
    · show S (46 :: locL) = Str.ofString ".local"
      decide +kernel
  dm := by
    rw [host_S hz hp]
    have hA := lower_S (host_c hz hp)
    cases sm
    · show dmF _ (S ((sufL z p 1).map upC)) = false
      have hf := low_1 z hz p hp
      have hB := lower_S (l := (sufL z p 1).map upC) (fun c hc => Nat.blt_eq.mp (List.all_eq_true.mp hf.2.2 c hc))
      cases e : ((sufL z p 1).map upC).map loC with
      | nil => rw [e] at hf; exact absurd rfl hf.2.1
      | cons x t =>
        rw [e] at hf hB
        exact dm_no hA hB (fun h => hf.1 (by rw [h]; rfl)) (fun h => by
          have h2 : (102 : Nat) = x := (List.cons.inj (show 102 :: _ = x :: t from h)).1
          exact hf.2.1 (by rw [h2]; rfl))
    · show dmF _ (S (46 :: locL)) = true
      have hB : Txt.lower (S (46 :: locL)) = S (46 :: locL) := lower_S (l := 46 :: locL) (by decide)
      rw [dm_S (c := 102) (r := ((hostL z p).map loC).tail) hA hB (by decide) (hd_host z hz p hp).2.2 hd_loc]
      exact (has_b z hz p hp).2
end Mine
end
section
open PySem PySem.W PyProof.Rows PySem.Calls
namespace Mine
set_option maxRecDepth 100000
set_option maxHeartbeats 8000000
theorem case_tab : ∀ c : Nat, c < 123 → loC (upC c) = loC c ∧ upC c < 123 := by decide +kernel
theorem map_case {l : List Nat} (h : ∀ c ∈ l, c < 123) : (l.map upC).map loC = l.map loC := by
  rw [List.map_map]
  exact List.map_congr_left fun c hc => (case_tab c (h c hc)).1
theorem up_fit {l : List Nat} (h : ∀ c ∈ l, c < 123) : ∀ c ∈ l.map upC, c < 123 := fun c hc => by
  obtain ⟨x, hx, rfl⟩ := List.mem_map.mp hc
  exact (case_tab x (h x hx)).2
theorem lower_vU {sm : Bool} {l : List Nat} (h : ∀ c ∈ l, c < 123) : Txt.lower (S (46 :: vU sm l)) = S (46 :: l.map loC) := by
  cases sm
  · show Txt.lower (S (46 :: l.map upC)) = _
    rw [lower_S (l := 46 :: l.map upC) (fun c hc => by rcases List.mem_cons.mp hc with rfl | hc; decide; exact up_fit h c hc), List.map_cons, map_case h]
    rfl
  · show Txt.lower (S (46 :: l)) = _
    rw [lower_S (l := 46 :: l) (fun c hc => by rcases List.mem_cons.mp hc with rfl | hc; decide; exact h c hc)]
    rfl
theorem host_head (z i : Nat) : (hostL z i).map loC = 102 :: ((hostL z i).map loC).tail := rfl
theorem m_ok {z : Nat} (hz : z < 4) {i : Nat} (hi : i < 12) {p : Nat} (hp : p < 16) (sm : Bool) {j : Nat} (hj : j < 4) (hh : hasL (46 :: (sufL z (p % 2 ^ (j + 1)) (j + 1)).map loC) ((hostL z i).map loC).tail = decide (i % 2 ^ (j + 1) = p % 2 ^ (j + 1))) :
    dmF (hostF (labA (z : Int)) (labB (z : Int)) (i : Int)) (S (46 :: vU sm (sufL z p (j + 1)))) = decide (i % 2 ^ (j + 1) = p % 2 ^ (j + 1)) := by
  rw [host_S hz (by omega)]
  have hA := lower_S (host_c (p := i) hz (by omega))
  rw [dm_S (c := 102) (r := ((hostL z i).map loC).tail) hA (lower_vU (suf_c hz hp (by omega))) (by decide) (hd_host z hz i (by omega)).2.2 (hd_sufp hz hp hj).2.2, suf_mod z hz p hp (j + 1) (by omega)]
  exact hh
theorem m0_ok {z : Nat} (hz : z < 4) {i : Nat} (hi : i < 12) {p : Nat} (hp : p < 16) (sm : Bool) : dmF (hostF (labA (z : Int)) (labB (z : Int)) (i : Int)) (cF sm z p 3) = decide (i % 2 = p % 2) := m_ok hz hi hp sm (j := 0) (by omega) (has_1 z hz i hi _ (Nat.mod_lt _ (by decide)))
theorem m1_ok {z : Nat} (hz : z < 4) {i : Nat} (hi : i < 12) {p : Nat} (hp : p < 16) (sm : Bool) : dmF (hostF (labA (z : Int)) (labB (z : Int)) (i : Int)) (cF sm z p 2) = decide (i % 4 = p % 4) := m_ok hz hi hp sm (j := 1) (by omega) (has_2 z hz i hi _ (Nat.mod_lt _ (by decide)))
theorem m2_ok {z : Nat} (hz : z < 4) {i : Nat} (hi : i < 12) {p : Nat} (hp : p < 16) (sm : Bool) : dmF (hostF (labA (z : Int)) (labB (z : Int)) (i : Int)) (cF sm z p 1) = decide (i % 8 = p % 8) := m_ok hz hi hp sm (j := 2) (by omega) (has_3 z hz i hi _ (Nat.mod_lt _ (by decide)))
theorem m3_ok {z : Nat} (hz : z < 4) {i : Nat} (hi : i < 12) {p : Nat} (hp : p < 16) (sm : Bool) : dmF (hostF (labA (z : Int)) (labB (z : Int)) (i : Int)) (cF sm z p 0) = decide (i % 16 = p % 16) := m_ok hz hi hp sm (j := 3) (by omega) (has_4 z hz i hi _ (Nat.mod_lt _ (by decide)))
theorem host_len {z : Nat} (hz : z < 4) {p : Nat} (hp : p < 16) : (hostF (labA (z : Int)) (labB (z : Int)) (p : Int)).length ≤ 50 := by
  rw [host_S hz hp, S_len]
  have := (host_fit z hz p hp).2.1
  omega
theorem lab_up {z : Nat} (hz : z < 4) {p : Nat} (hp : p < 16) : Txt.upper (pk (labA (z : Int)) (labB (z : Int)) ((p : Int).fmod 2)) = S ((pkL z p).map upC) ∧ (S ((pkL z p).map upC)).length ≤ 50 := by
  constructor
  · rw [pk_S hz hp, upper_S (fun c hc => suf_c hz hp (j := 1) (by omega) c (List.mem_append.mpr (.inl (by rw [Nat.pow_zero, Nat.div_one]; exact hc))))]
  · rw [S_len, List.length_map]
    have h1 := suf_len z p 1 (by omega)
    have h2 := (host_fit z hz p hp).2.1
    rw [sufL.eq_2, Nat.pow_zero, Nat.div_one, List.length_append] at h1
    omega
theorem bare_ok {z : Nat} (hz : z < 4) {p : Nat} (hp : p < 16) : Bare (hostF (labA (z : Int)) (labB (z : Int)) (p : Int)) (pk (labA (z : Int)) (labB (z : Int)) ((p : Int).fmod 2)) (nmL z p) (S (bareL z p)) (S ((bareL z p).map upC)) (if nmL z p = true then S (46 :: midL z p) else S (bareL z p)) (S (46 :: midL z p)) := by
  have hl := (host_fit z hz p hp).2.1
  have hb := host_bare z hz p hp
  have hc : ∀ c ∈ bareL z p, c < 123 := fun c hc => host_c hz hp c (by rw [hb]; exact List.mem_append.mpr (.inl hc))
  have hm : ∀ c ∈ midL z p, c < 123 := fun c h => hc c (List.mem_append.mpr (.inr (.tail _ h)))
  have hlb : (bareL z p).length ≤ 30 := by rw [hb, List.length_append] at hl; omega
  have hlm : (midL z p).length ≤ 30 := by unfold bareL at hlb; rw [List.length_append, List.length_cons] at hlb; omega
  have hA := lower_S hc
  have hU := lower_S (up_fit hc)
  rw [map_case hc] at hU
  have hB : Txt.lower (S (46 :: midL z p)) = S (46 :: (midL z p).map loC) := lower_vU (sm := true) hm
  obtain ⟨q1, q2, q3⟩ := hd_bare z hz p hp
  have hT := (has_b z hz p hp).1
  refine ⟨?_, ?_, upper_S hc, ?_, slice_S ftpL _, rfl, ?_, ?_, ?_⟩
  · rw [pk_S hz hp, show Str.ofString "7" = S [55] from by decide +kernel]
    show (!(S (pkL z p) == S [55])) = !(pkL z p == [55])
    congr 1
    rw [Bool.eq_iff_iff, beq_iff_eq, beq_iff_eq]
    exact ⟨S_inj, fun h => by rw [h]⟩
  · rw [host_S hz hp, hb]
    exact slice_to_S _ _ rfl (by decide)
  · cases e : nmL z p with
    | false =>
      rw [if_neg Bool.false_ne_true]
      exact reach_no (p := ftpL) (b := midL z p) (by decide) (.inl (q1.trans e))
    | true =>
      rw [if_pos rfl]
      exact reach_S (p := ftpL) (b := midL z p) (by decide) (q1.trans e) (.inl (List.mem_append.mpr (.inr (.head _))))
  · cases e : nmL z p with
    | false =>
      rw [if_neg Bool.false_ne_true]
      exact dm_same (hU.trans hA.symm)
    | true =>
      rw [if_pos rfl, dm_S (c := 102) (r := ((bareL z p).map loC).tail) hU hB (by decide) (q2.trans e) (q3.trans e)]
      exact hT
  · cases e : nmL z p with
    | false => exact dm_no1 hA hB (fun h => absurd (show (102 : Nat) = 46 from (List.cons.inj (show 102 :: _ = 46 :: _ from h)).1) (by decide)) (q2.trans e)
    | true =>
      rw [dm_S (c := 102) (r := ((bareL z p).map loC).tail) hA hB (by decide) (q2.trans e) (q3.trans e)]
      exact hT
  · refine ⟨host_len hz hp, ?_, ?_, ?_, ?_⟩
    · rw [S_len]; omega
    · rw [S_len, List.length_map]; omega
    · split
      · rw [S_len, List.length_cons]; omega
      · rw [S_len]; omega
    · rw [S_len, List.length_cons]; omega
end Mine
end
section
open PySem PySem.W PyProof.Rows PySem.Calls
namespace Mine
set_option maxRecDepth 100000
set_option maxHeartbeats 8000000
theorem wpC_seg {M : Model} {A : Around} {E : Value → Shared → Prop} {s : Shared} {env : Env} {Q : Flow → Shared → Prop} (k n : Nat)
    (h : wpAny M A (execs ((lawBody.drop k).take n) env) (fun f s' => match f with | .next => wpC M A (execs (lawBody.drop (k + n)) env) Q E s' | f => Q f s') E s) : wpC M A (execs (lawBody.drop k) env) Q E s := by
  have e : (lawBody.drop k).take n ++ lawBody.drop (k + n) = lawBody.drop k := by rw [← List.drop_drop]; exact List.take_append_drop n _
  rw [← e]
  exact wpC_execs_app _ h
theorem mark_in (d : Int) : markF d ∈ marks := by
  have h0 : 0 ≤ (d.fdiv 4).fmod 4 := Int.fmod_nonneg_of_pos _ (by decide)
  have h1 : (d.fdiv 4).fmod 4 < 4 := Int.fmod_lt_of_pos _ (by decide)
  have t : ∀ n : Nat, n < 4 → Txt.item (Str.ofString "|!#~") (n : Int) ∈ marks := by decide +kernel
  have h := t ((d.fdiv 4).fmod 4).toNat (by omega)
  rw [Int.toNat_of_nonneg h0] at h
  exact h
theorem lab_len : ∀ z : Nat, z < 4 → (labA (z : Int)).length ≤ 10 ∧ (labB (z : Int)).length ≤ 10 := by decide +kernel
theorem strs_snoc : ∀ {vs : List Value} {ys : List Str} {y : Str}, StrsAre vs (ys ++ [y]) → ∃ v0 t, vs = v0 ++ [.str y t] ∧ StrsAre v0 ys
  | _, [], _, .cons y t .nil => ⟨[], t, rfl, .nil⟩
  | _, x :: ys, _, .cons _ t h => by
    obtain ⟨v0, t', e, h'⟩ := strs_snoc (ys := ys) h
    exact ⟨.str x t :: v0, t', by rw [e]; rfl, .cons x t h'⟩
theorem ints_snoc : ∀ {vs : List Value} {ys : List Int} {y : Int}, IntsAre vs (ys ++ [y]) → ∃ v0 t, vs = v0 ++ [.int y t] ∧ IntsAre v0 ys
  | _, [], _, .cons y t .nil => ⟨[], t, rfl, .nil⟩
  | _, x :: ys, _, .cons _ t h => by
    obtain ⟨v0, t', e, h'⟩ := ints_snoc (ys := ys) h
    exact ⟨.int x t :: v0, t', by rw [e]; rfl, .cons x t h'⟩
theorem ints_at : ∀ {vs : List Value} {ns : List Int}, IntsAre vs ns → ∀ {i : Nat} {x : Int}, ns[i]? = some x → ∃ t, vs[i]? = some (.int x t)
  | _, _, .cons a t _, 0, x, e => ⟨t, by cases Option.some.inj e; rfl⟩
  | _, _, .cons a t h, i + 1, x, e => by
    obtain ⟨t', e'⟩ := ints_at h (i := i) (x := x) e
    exact ⟨t', e'⟩
theorem range_at {α : Type} (f : Int → α) {k i : Nat} (hi : i < k) : ((rangeKs 0 k).map f)[i]? = some (f (i : Int)) := by
  unfold rangeKs
  rw [List.map_map, List.getElem?_map, List.getElem?_range hi]
  simp
theorem joined (w : World) (s₁ : Shared) (mean : ExcName → Option Value) (mg mb : Str → Option Value) (KX : (hd.heap_39 w.params).In s₁.heap) (T : Top hd.view_39 lawL mean mg mb s₁.heap)
   (l : Addr) (vs : List Value) (ns : List Int) (hL : s₁.heap.IsList l vs.toArray) (hI : IntsAre vs ns) (hlen : ns.length ≤ 63) (R : Result → Shared → Prop)
   (fin : ∀ (L : Addr) (h : Heap) (tk : Nat) (m : Str → Option Value), Fr s₁.heap L h m → R (.ok (.ret (.bool true))) { s₁ with heap := h, toks := tk }) :
   codeC (model PySem.Challenge.rw_zo0021_01.row.prog w) callerA (.call (.ref 139) ⟨[.ref l], []⟩) R s₁ := by
  refine lawA w s₁ mean mg mb KX T l vs ns hL hI hlen R ?_
  intro L h1 tk1 m1 D ws dd o1 o2 o3 c1 c2 c3 F1 hm1 N1 hId hld hnn lD
  obtain ⟨d0, d1, d2, rfl⟩ : ∃ a b c, dd = [a, b, c] := by
    match dd, hld with
    | [a, b, c], _ => exact ⟨a, b, c, rfl⟩
  rcases hId with _ | ⟨_, t0, hId⟩
  rcases hId with _ | ⟨_, t1, hId⟩
  rcases hId with _ | ⟨_, t2, hId⟩
  cases hId
  have p0 := hnn d0 (.head _)
  have p1 := hnn d1 (.tail _ (.head _))
  have p2 := hnn d2 (.tail _ (.tail _ (.head _)))
  refine wpC_seg 1 7 (lawB w s₁ mean mg mb KX T L _ m1 D d0 d1 d2 t0 t1 t2 o1 o2 o3 c1 c2 c3 F1 hm1 N1 p0 p1 p2 lD _ ?_)
  intro h2 tk2 m2 LB H R' la' lb' ta tb tm on oc tn tc ela elb qn qc F2 N2 hm2 l1 l1b l1c l4 l2 l3
  obtain ⟨z, hz, ez⟩ : ∃ z : Nat, z < 4 ∧ d2.fmod 4 = (z : Int) := by
    have a := Int.fmod_nonneg_of_pos d2 (b := 4) (by decide)
    have b := Int.fmod_lt_of_pos d2 (b := 4) (by decide)
    exact ⟨(d2.fmod 4).toNat, by omega, by omega⟩
  obtain ⟨q, hq, eq⟩ : ∃ q : Nat, q < 16 ∧ d1.fmod 16 = (q : Int) := by
    have a := Int.fmod_nonneg_of_pos d1 (b := 16) (by decide)
    have b := Int.fmod_lt_of_pos d1 (b := 16) (by decide)
    exact ⟨(d1.fmod 16).toNat, by omega, by omega⟩
  obtain ⟨k, hk0, hk12, ek⟩ : ∃ k : Nat, 0 < k ∧ k ≤ 12 ∧ 1 + d0.fmod 12 = (k : Int) := by
    have a := Int.fmod_nonneg_of_pos d0 (b := 12) (by decide)
    have b := Int.fmod_lt_of_pos d0 (b := 12) (by decide)
    exact ⟨(1 + d0.fmod 12).toNat, by omega, by omega, by omega⟩
  rw [ez] at ela elb
  rw [eq] at qc
  rw [ek] at qn
  subst ela elb
  have hmk := mark_in d2
  generalize markF d2 = mk at hmk hm2
  generalize smallF d2 = sm at hm2
  have hll := lab_len z hz
  refine wpC_seg 8 1 (lawC w s₁ mean mg mb KX T L _ m2 D LB H R' (labA (z : Int)) (labB (z : Int)) ta tb tm on oc o3 tn tc (k : Int) (q : Int) sm mk hmk qn qc c3 (by omega) (by omega) (by omega) (by omega) hll.1 hll.2 F2 hm2 N2 l1 l1b l1c l4 l2 l3 _ ?_)
  intro h3 tk3 m3 hs rs c d F3 N3 hhs hrs hm3
  have ekk : (((k : Int)) - 0).toNat = k := by omega
  rw [ekk] at hhs hrs
  have hps : ∀ p ∈ rangeKs 0 k ++ [(q : Int)], 0 ≤ p ∧ p < 16 := fun p hp => by
    rcases List.mem_append.mp hp with hp | hp
    · have := mem_rangeKs hp
      omega
    · rw [List.mem_singleton.mp hp]
      omega
  have hpl : (rangeKs 0 k ++ [(q : Int)]).length = k + 1 := by rw [List.length_append, rangeKs_length]; rfl
  refine lawD w s₁ mean mg mb KX T L _ m3 D LB H R' tm sm mk _ rs d (k + 1) _ hpl (by omega) (by omega) hrs hps F3 hm3 N3 _ ?_
  intro h4 tk4 m4 b tb4 F4 N4 hb hm4
  refine wpC_seg 10 2 (lawE w s₁ mean mg mb KX T L _ m4 D LB H R' tm sm mk on oc o3 _ _ _ tn tc (k : Int) (q : Int) (k + 1) qn qc c3 _ hpl (by omega) (by omega) hps b tb4 hb F4 hm4 N4 l1 l1b l1c l4 l2 l3 _ ?_)
  intro h5 tk5 m5 Sa sp c5 o3' F5 N5 q3 hsp hm5 l5
  rw [List.map_append, List.map_singleton] at hhs hsp
  obtain ⟨hs0, to, rfl, hhs0⟩ := strs_snoc hhs
  obtain ⟨sp0, tg, rfl, hsp0⟩ := ints_snoc hsp
  have K := climb_ok hz hq sm
  have hlh : hs0.length ≤ 12 := by rw [hhs0.len_eq, List.length_map, rangeKs_length]; omega
  have hls : sp0.length ≤ 12 := by rw [hsp0.length, List.length_map, rangeKs_length]; omega
  refine wpC_seg 12 4 (lawF w s₁ mean mg mb KX T L _ m5 D LB H R' Sa tm sm mk on oc o3' _ _ _ q3 b tb4 (pk (labA (z : Int)) (labB (z : Int)) ((q : Int).fmod 2)) _ (bF sm z q 0) to tg hs0 sp0 c c5 hlh hls K.e0 (K.zb 0 (by omega)) F5 hm5 N5 l1 l1b l1c l4 l2 l3 l5 _ ?_)
  intro h6 tk6 m6 C t6 F6 N6 hm6 l6
  refine wpC_seg 16 1 (lawG w s₁ mean mg mb KX T L _ m6 D LB H R' Sa C tm sm mk on oc o3' _ _ _ _ _ b tb4 _ _ (bF sm z q) (cF sm z q) to tg t6 K F6 hm6 N6 l1 l1b l1c l4 l2 l3 l5 l6 _ ?_)
  intro h7 tk7 m7 us c7 F7 N7 hus hm7
  replace hus : StrsAre us [cF sm z q 0, cF sm z q 1, cF sm z q 2, cF sm z q 3, cF sm z q 4] := hus
  rcases hus with _ | ⟨_, u0, hus⟩
  rcases hus with _ | ⟨_, u1, hus⟩
  rcases hus with _ | ⟨_, u2, hus⟩
  rcases hus with _ | ⟨_, u3, hus⟩
  rcases hus with _ | ⟨_, u4, hus⟩
  cases hus
  have hup := lab_up hz hq
  have htop := K.top
  rw [hup.1] at htop
  refine wpC_seg 17 2 (lawH w s₁ mean mg mb KX T L _ m7 D LB H R' Sa C tm sm mk on oc o3' _ _ _ _ (q : Int) tc qc b tb4 (labA (z : Int)) (labB (z : Int)) _ _ _ _ _ _ _ to tg ta tb u0 u1 u2 u3 u4 c7 hup.1 hup.2 K.zo (K.zc 4 (by omega)) htop K.dm F7 hm7 N7 l1 l1b l1c l4 l2 l3 l5 l6 _ ?_)
  intro h8 tk8 m8 F8 N8 hm8
  refine wpC_seg 19 4 (lawI w s₁ mean mg mb KX T L _ m8 D LB H R' Sa C tm sm mk on oc o3' _ _ _ _ _ (q : Int) tc qc b tb4 (labA (z : Int)) (labB (z : Int)) _ _ _ _ _ _ to tg ta tb (bare_ok hz hq) F8 hm8 N8 l1 l1b l1c l4 l2 l3 l5 l6 _ ?_)
  intro h9 tk9 m9 F9 N9 hm9
  have hH : ∀ i, i < k → ∃ t, hs0[i]? = some (.str (hostF (labA (z : Int)) (labB (z : Int)) (i : Int)) t) := fun i hi => hhs0.at (range_at _ hi)
  have hS : ∀ i, i < k → ∃ t, sp0[i]? = some (.int (revF (i : Int)) t) := fun i hi => ints_at hsp0 (range_at _ hi)
  refine wpC_seg 23 2 (lawJ w s₁ mean mg mb KX T L _ m9 D LB H R' Sa C tm sm mk on oc o3' _ _ _ (q : Int) (k : Int) tc tn qc qn q3 b tb4 (labA (z : Int)) (labB (z : Int)) _ _ _ _ _ _ to tg u0 u1 u2 u3 u4 c7 _ _ q k hs0 sp0 rfl hq rfl hk12 rfl hH hS (fun i hi => host_len hz (by omega))
    (K.zc 0 (by omega)) (K.zc 1 (by omega)) (K.zc 2 (by omega)) (K.zc 3 (by omega)) (fun i hi => m0_ok hz (by omega) hq sm) (fun i hi => m1_ok hz (by omega) hq sm) (fun i hi => m2_ok hz (by omega) hq sm) (fun i hi => m3_ok hz (by omega) hq sm) F9 hm9 N9 l1 l1b l1c l4 l2 l3 l5 l6 _ ?_)
  intro h10 tk10 m10 I a0 a1 a2 a3 v0 v1 v2 v3 c10 F10 N10 e0 e1 e2 e3 hm10 l7
  have ezs : (rangeKs 0 k).map revF = (List.range k).map fun i : Nat => revF (i : Int) := by
    unfold rangeKs
    rw [List.map_map]
    exact List.map_congr_left fun i _ => by simp
  refine wpC_seg 25 5 (lawK w s₁ mean mg mb KX T L _ m10 D LB H R' Sa C I tm sm mk on oc o3' _ _ _ _ _ (q : Int) (k : Int) tc tn qc qn q3 b tb4 _ to tg v0 v1 v2 v3 c10 _ q k a0 a1 a2 a3 sp0 _ rfl hq rfl hk0 hk12 hsp0 ezs e0 e1 e2 e3 F10 hm10 N10 l1 l1b l1c l4 l2 l3 l5 l6 l7 _ ?_)
  intro h11 tk11 m11 F11
  exact fin L h11 tk11 m11 F11
end Mine
end
open PySem PySem.W PyProof.Rows PySem.Calls
set_option maxRecDepth 100000 in
set_option maxHeartbeats 8000000 in
theorem PySem.Challenge.cw_zo0021_01_holds : PySem.Challenge.rw_zo0021_01.Holds := by
  refine Mine.hd ?_
  w_top off
  k_fill
  intro w s₀ s₁ mg mb G Y fa o pm cd doc dV kV ho hd hcd hD hmg hg args vals as hpre hlay hrd hwl hlo
  have KX := kIn_of Y
  refine Ground.open G ?_
  intro T B D TE TW
  wrow_args hpre hlay hrd hwl hlo
  have e9 : mg (Str.ofString "law") = some (.ref 139) := mg_of KX T.g (by k_is)
  have ef : fa = 139 := by
    have e8 := e9.symm.trans hmg
    exact (Value.ref.inj (Option.some.inj e8)).symm
  subst ef
  refine Mine.wpC_call (Mine.joined w s₁ _ mg mb KX T _ _ _ (by assumption) (by assumption) (by omega) _ ?_)
  intro L h tk m F
  refine GoodW.toG ⟨.inl ⟨.bool true, .bool true, [], rfl, ?_, .bool true, ?_, fun _ => ⟨List.nodup_nil, fun a ha => absurd ha (List.not_mem_nil)⟩⟩, F.keep, rfl, hg⟩
  · intro cls
    rfl
  · exact postW_of (X := (true == true)) (by rfl) (show (WTm.eq WTm.res (WTm.lit (WData.bool true))).value _ _ = _ from w_eq_bool (w_res rfl) w_lit) rfl

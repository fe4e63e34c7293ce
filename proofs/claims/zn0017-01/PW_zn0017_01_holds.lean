import PyProof.Rows.All
import Wide.All
import OpenK.AllK
import Wide.FinOn
import Lean
import PySem.Challenge.RW_zn0017_01
set_option Elab.async false
section
local macro_rules | `(tactic| omega) => `(tactic| lia)
section
-- ClnZ
open PySem PySem.W PyProof.Rows PySem.Calls PySem.Spec
set_option Elab.async false
set_option maxRecDepth 100000
set_option maxHeartbeats 4000000
namespace Mine
open Sem (wp)

/-- no decoder's code, which holds a bytearray while it calls out -/
def notDec : Code → Bool
  | .builtin id _ => !(["bytearray.__contains__", "bytearray.__mod__", "bytearray.__rmod__", "_struct.pack_into.held", "bytearray.find.held"] ++ Builtin.Bytes.decodersThatHold).contains id
  | _ => true
def CleanB (l : List (Code × Pos)) : Prop := ∀ x ∈ l, notDec x.1 = true
def Clean (Γ : PySem.Ctx) : Prop := notDec Γ.code = true ∧ CleanB Γ.below

/-- wpAny over the clean contexts alone -/
def wpC {α : Type} (M : Model) (A : Around) (t : Sem α) (Q : α → Shared → Prop) (E : Value → Shared → Prop) (s : Shared) : Prop :=
  ∀ (Γ : PySem.Ctx) p, Γ.In A → Clean Γ → wp M Γ t (fun a _ s' => Q a s') (fun e _ s' => E e s') p s
def codeC (M : Model) (A : Around) (c : Code) (R : Result → Shared → Prop) (s : Shared) : Prop :=
  ∀ (Γ : PySem.Ctx) p, Γ.code = c → Γ.Below A → CleanB Γ.below → wpCode M Γ R p s

section
variable {α β : Type} {M : Model} {A : Around} {E : Value → Shared → Prop} {s : Shared}
theorem wpC.of_any {t : Sem α} {Q : α → Shared → Prop} (h : wpAny M A t Q E s) : wpC M A t Q E s := fun Γ p hΓ _ => h Γ p hΓ
theorem wpC_pure {a : α} {Q : α → Shared → Prop} (h : Q a s) : wpC M A (pure a) Q E s := fun _ _ _ _ => h
theorem wpC_mono {t : Sem α} {Q Q' : α → Shared → Prop} {E' : Value → Shared → Prop} (h : wpC M A t Q E s) (hQ : ∀ a s, Q a s → Q' a s) (hE : ∀ e s, E e s → E' e s) : wpC M A t Q' E' s :=
  fun Γ p hΓ hC => Sem.wp_mono M Γ t (fun a _ s => hQ a s) (fun e _ s => hE e s) p s (h Γ p hΓ hC)
theorem wpC_bind {m : Sem α} {f : α → Sem β} {Q : β → Shared → Prop} (h : wpC M A m (fun a s' => wpC M A (f a) Q E s') E s) : wpC M A (m >>= f) Q E s := fun Γ p hΓ hC => by
  rw [Sem.wp_bind']
  exact Sem.wp_mono M Γ m (fun a p' s' h' => h' Γ p' hΓ hC) (fun _ _ _ h' => h') p s (h Γ p hΓ hC)
/-- a step of the library's own, then the clean rest -/
theorem wpC_step {m : Sem α} {f : α → Sem β} {Q : β → Shared → Prop} (h : wpAny M A m (fun a s' => wpC M A (f a) Q E s') E s) : wpC M A (m >>= f) Q E s := wpC_bind (.of_any h)
theorem wpC_holding {vs : List Value} {m : Sem α} {Q : α → Shared → Prop} (h : wpC M A m Q E s) : wpC M A (holding vs m) Q E s :=
  fun Γ p hΓ hC => by rw [Sem.wp_holding]; exact h Γ p hΓ hC
theorem wpC_onRaise {m : Sem α} {k : Value → Sem Unit} {Q : α → Shared → Prop} (h : wpC M A m Q (fun e s' => wpAny M A (k e) (fun _ s'' => E e s'') E s') s) : wpC M A (m.onRaise k) Q E s := fun Γ p hΓ hC => by
  rw [Sem.wp_onRaise]
  exact Sem.wp_mono M Γ m (fun _ _ _ h' => h') (fun e p' s' h' => h' Γ p' hΓ) p s (h Γ p hΓ hC)
theorem wpC_stack {Q : List (Code × Pos) → Shared → Prop} (h : ∀ st, CleanB st → Q st s) : wpC M A stack Q E s := fun Γ p _ hC => by
  unfold stack
  rw [Sem.wp_stack]
  exact h _ fun x hx => by
    rcases List.mem_cons.mp hx with rfl | hx
    · exact hC.1
    · exact hC.2 x hx
theorem codeC.of_any {c : Code} {R : Result → Shared → Prop} (h : codeAny M A c R s) : codeC M A c R s := fun Γ p hc hΓ _ => h Γ p hc hΓ
theorem codeC_mono {c : Code} {R R' : Result → Shared → Prop} (h : codeC M A c R s) (hR : ∀ r s, R r s → R' r s) : codeC M A c R' s :=
  fun Γ p hc hΓ hC => wpCode_mono hR (h Γ p hc hΓ hC)
theorem wpC_runValue {c : Code} {Q : Value → Shared → Prop}
    (hc : codeC M A c (fun r s' => match r with | .ok (.ret v) => Q v s' | .ok _ => False | .error e => E e s') s) : wpC M A (runValue c) Q E s := fun Γ p hΓ hC => by
  rw [Sem.wp_runValue]
  exact hc _ p rfl (hΓ.enter c none p (by intro x; cases x)) fun x hx => by
    rcases List.mem_cons.mp hx with rfl | hx
    · exact hC.1
    · exact hC.2 x hx
theorem wpC_call {f : Value} {pos : List Value} {kw : List (Str × Value)} {Q : Value → Shared → Prop}
    (hc : codeC M A (.call f ⟨pos, kw⟩) (fun r s' => match r with | .ok (.ret v) => Q v s' | .ok _ => False | .error e => E e s') s) : wpC M A (call f pos kw) Q E s := wpC_runValue hc
theorem codeC_of_tree {c : Code} {R : Result → Shared → Prop} (hn : notDec c = true)
    (h : wpC M (A.under c) (M.den c) (fun fin s' => match fin with | .done f => R (.ok f) s' | .again c' => c'.quiet = true ∧ codeC M A c' R s') (fun e s' => R (.error e) s') s) : codeC M A c R s := fun Γ p hc hΓ hC => by
  rw [wpCode_iff_wp, hc]
  refine Sem.wp_mono M Γ _ (fun fin p' s' h' => ?_) (fun _ _ _ h' => h') p s (h Γ p (hc ▸ hΓ.in) ⟨by rw [hc]; exact hn, hC⟩)
  cases fin with
  | done f => exact h'
  | again c' => exact ⟨h'.1, h'.2 (Γ.goto c') p' rfl (hΓ.goto c') hC⟩
end
section
variable {prog : Program} {w : World} {A : Around} {E : Value → Shared → Prop} {s : Shared} {R : Result → Shared → Prop}
theorem codeC_builtin {id : String} {args : Args} {b : Builtin} (hn : notDec (.builtin id args) = true) (hb : entryFor table id = some b)
    (h : wpC (model prog w) (A.under (.builtin id args)) (b args) (fun fin s' => match fin with | .done f => R (.ok f) s' | .again c' => c'.quiet = true ∧ codeC (model prog w) A c' R s') (fun e s' => R (.error e) s') s) :
    codeC (model prog w) A (.builtin id args) R s := by
  refine codeC_of_tree hn ?_
  show wpC _ _ (match entryFor table id with | some b => b args | none => unsupported ((withoutEnding? id "#data").getD id)) _ _ s
  rw [hb]; exact h
theorem codeC_func {body : List Stmt} {env : Env}
    (h : wpC (model prog w) (A.deeper env) (execs body env) (fun f s' => R (.ok (.ret (match f with | .ret v => v | _ => .none))) s')
      (fun e s' => wpAny (model prog w) (A.deeper env) (leaving env e) (fun _ s'' => R (.error e) s'') (fun e' s'' => R (.error e') s'') s') s) :
    codeC (model prog w) A (.func body env) R s := by
  refine codeC_of_tree rfl ?_
  show wpC _ (A.deeper env) (do point; match ← (execs body env).onRaise (leaving env) with | .ret v => ret v | _ => ret .none) _ _ s
  refine wpC_step (wpAny_point (wpC_bind (wpC_onRaise (wpC_mono h (fun f s' h' => ?_) fun _ _ h' => h'))))
  cases f <;> exact wpC_pure h'
theorem codeC_call_function {a : Addr} {args : Args} {o : Obj} {fd : FuncData} {body : List Stmt} (hroom : A.depth < recursionLimit)
    (ho : s.heap.get? a = some o)
    (hd' : o.data = .func fd) (hco : fd.scope.isCoroutine = false) (hgen : fd.scope.isGenerator = false) (hbody : fd.body = .stmts body) (hcd : s.heap.CodeRec fd.code fd.qualname)
    (h : wpAny (model prog w) A.in1 (bindArgs fd args) (fun binds s₁ =>
      wpAny (model prog w) A.in1 (newFunctionEnv fd.scope fd.globals fd.closure binds (fd.qualname ++ ".<locals>.") (some a) fd.code none fd.builtins)
        (fun env s₂ => s₂.heap.NoLimit ∧ codeC (model prog w) A (.func body env) R s₂) (fun e s' => R (.error e) s') s₁) (fun e s' => R (.error e) s') s) :
    codeC (model prog w) A (.call (.ref a) args) R s := by
  refine codeC_of_tree rfl (.of_any ?_)
  show wpAny _ A.in1 (callAny (.ref a) args) _ _ s
  simp only [callAny]
  refine wpAny_bind (wpAny_load ho ?_)
  obtain ⟨c, oc, vs, tq, hc, hoc, hdc, hq⟩ := hcd
  simp only [hd', callFunction, hco, hgen, hbody, hc]
  rw [hc] at h
  refine wpAny_bind (m := field (.ref c) 1) (wpAny_field hoc hdc hq (wpAny_bind (wpAny_pure ?_)))
  exact wpAny_bind (wpAny_mono h (fun binds s₁ h₁ => wpAny_bind (wpAny_mono h₁ (fun env s₂ h₂ => wpAny_bind (wpAny_enterFrame h₂.1 hroom
    (wpAny_pure (And.intro rfl h₂.2)))) fun _ _ h' => h')) fun _ _ h' => h')

/-- statements -/
theorem wpC_execs_cons {st : Stmt} {rest : List Stmt} {env : Env} {Q : Flow → Shared → Prop}
    (h : wpC (model prog w) A (exec st env) (fun f s' => match f with | .next => wpC (model prog w) A (execs rest env) Q E s' | f => Q f s') E s) : wpC (model prog w) A (execs (st :: rest) env) Q E s := by
  rw [execs_cons]
  refine wpC_bind (wpC_mono h (fun f s' h' => ?_) fun _ _ h' => h')
  cases f <;> first | exact h' | exact wpC_pure h'
theorem wpC_cons_any {st : Stmt} {rest : List Stmt} {env : Env} {Q : Flow → Shared → Prop}
    (h : wpAny (model prog w) A (exec st env) (fun f s' => match f with | .next => wpC (model prog w) A (execs rest env) Q E s' | f => Q f s') E s) : wpC (model prog w) A (execs (st :: rest) env) Q E s := wpC_execs_cons (.of_any h)
theorem wpC_execs_any {st : List Stmt} {env : Env} {Q : Flow → Shared → Prop} (h : wpAny (model prog w) A (execs st env) Q E s) : wpC (model prog w) A (execs st env) Q E s := .of_any h
theorem wpC_Assign_Name {x : Str} {pos' pos : Pos} {value : Expr} {env : Env} {Q : Flow → Shared → Prop}
    (h : wpC (model prog w) A (eval value env) (fun v s₁ => wpAny (model prog w) A (storeName env x v) (fun _ => Q .next) E s₁) E s)
    (hs : swapsWith value (some (.Name x pos')) pos.line env = pure false := by rfl) :
    wpC (model prog w) A (exec (.Assign [.Name x pos'] value pos) env) Q E s := fun Γ p hΓ hC => by
  simp only [exec_Assign_Name env x pos' value pos hs, Sem.wp_bind', Sem.wp_cmd_standAt, Sem.wp_bindName, Sem.wp_pure']
  exact Sem.wp_mono _ Γ _ (fun v _ s₁ h₁ => h₁ Γ _ hΓ) (fun _ _ _ h' => h') _ _ (h Γ _ hΓ hC)
theorem wpC_If {test : Expr} {body orelse : List Stmt} {pos : Pos} {env : Env} {Q : Flow → Shared → Prop}
    (h : wpC (model prog w) A (isTrue test env (eval test env)) (fun b s₂ => if b then wpC (model prog w) A (execs body env) Q E s₂ else wpC (model prog w) A (execs orelse env) Q E s₂) E s) :
    wpC (model prog w) A (exec (.If test body orelse pos) env) Q E s := fun Γ p hΓ hC => by
  simp only [exec_If, Sem.wp_bind', Sem.wp_cmd_standAt]
  refine Sem.wp_mono _ Γ _ (fun b p₂ s₂ h₂ => ?_) (fun _ _ _ h' => h') _ _ (h Γ _ hΓ hC)
  cases b <;> exact h₂ Γ p₂ hΓ hC
theorem wpC_Call_Name {x : Str} {p pos : Pos} {args : List Expr} {env : Env} {trees : List (Bool × Sem Value)} {Q : Value → Shared → Prop} (ht : backTo pos (starEach args env) = trees)
    (h : wpAny (model prog w) A (eval (.Name x p) env) (fun f s₁ => wpC (model prog w) A (callWith pos f [] trees []) Q E s₁) E s) :
    wpC (model prog w) A (eval (.Call (.Name x p) args [] pos) env) Q E s := by
  subst ht
  exact wpC_step (m := eval (.Name x p) env) (f := fun f => callWith pos f [] (backTo pos (starEach args env)) []) h
theorem splicedC_nil {Q : List Value → Shared → Prop} (h : Q [] s) : wpC (model prog w) A (spliced []) Q E s := wpC_pure h
theorem splicedC_cons {x : Sem Value} {rest : List (Bool × Sem Value)} {Q : List Value → Shared → Prop}
    (h : wpC (model prog w) A x (fun v s₁ => wpC (model prog w) A (spliced rest) (fun vs s₂ => Q (v :: vs) s₂) E s₁) E s) : wpC (model prog w) A (spliced ((false, x) :: rest)) Q E s := by
  rw [spliced]
  refine wpC_bind (wpC_mono h (fun v s₁ h₁ => ?_) fun _ _ x => x)
  simp only [Bool.false_eq_true, if_false]
  exact wpC_bind (wpC_pure (wpC_bind (wpC_holding (wpC_mono h₁ (fun vs s₂ h₂ => wpC_pure h₂) fun _ _ x => x))))
theorem evalArgsC {f : Value} {x : Sem Value} {rest : List (Bool × Sem Value)} {Q : Args → Shared → Prop}
    (h : wpC (model prog w) A (spliced ((false, x) :: rest)) (fun vs s' => Q ⟨vs, []⟩ s') E s) : wpC (model prog w) A (evalArgs f true ((false, x) :: rest) []) Q E s := by
  unfold evalArgs
  show wpC _ A (spliced ((false, x) :: rest) >>= _) Q E s
  refine wpC_bind (wpC_mono h (fun vs s' h' => ?_) fun _ _ x => x)
  refine wpC_holding ?_
  exact wpC_bind (wpC_pure (wpC_bind (wpC_pure (wpC_pure h'))))
end
end Mine
end
section
-- BaT
open PySem PySem.W PyProof.Rows PySem.Calls PySem.Spec
set_option Elab.async false
set_option maxRecDepth 100000
set_option maxHeartbeats 4000000
namespace Mine
namespace BA
theorem mro : mroOf (.type "bytearray") = pure [.type "bytearray", .type "object"] := by rw [mroOf_type]; kernel_rfl
theorem lookup_new : typeLookup (.type "bytearray") "__new__" = pure (some (.builtin "bytearray.__new__")) := by rw [typeLookup_type, builtinLookup_eq_fast]; kernel_rfl
theorem slot_init : Slot "bytearray" "__init__" "bytearray.__init__" :=
  .of (owner := "bytearray") (n := "__init__") (by rw [typeLookup_type, builtinLookup_eq_fast]; kernel_rfl) (by decide +kernel) (by decide +kernel) (by decide +kernel)
    (by first | exact .inl (by decide +kernel) | exact .inr (by decide +kernel)) (by rw [isSubtype_type]; kernel_rfl)
theorem called : TypeCalled "bytearray" "bytearray.__new__" "bytearray.__init__" :=
  ⟨by decide +kernel, by decide +kernel, ⟨_, _, mro⟩, madeBy_type mro lookup_new (by decide +kernel), by decide +kernel, by rw [isSubtype_type]; kernel_rfl, slot_init⟩
theorem typeCall (a : Value) : checkTypeCall "bytearray" ⟨[a], []⟩ = pure () := by kernel_rfl
theorem newCall (a : Value) : checkBuiltinCall "bytearray.__new__" ⟨[.type "bytearray", a], []⟩ = pure () := by kernel_rfl
theorem entry_new : entryFor table "bytearray.__new__" = some Builtin.«list.__new__» := entryFor_alias (id' := "list.__new__") (by kernel_rfl) rfl (by decide +kernel) (by kernel_rfl)
theorem plain_new : plainId "bytearray.__new__" = true := by decide +kernel
theorem entry_init : entryFor table "bytearray.__init__" = some Builtin.«bytearray.__init__» := by first | exact entryFor_of_fast (by kernel_rfl) | exact entryFor_of_tree (by kernel_rfl)
theorem plain_init : plainId "bytearray.__init__" = true := by decide +kernel
theorem bindOpt (v : Value) : Builtin.Bytes.bindOptional "bytearray.__init__" "bytearray" ["source", "encoding", "errors"] [v] [] = pure [some v, none, none] := by kernel_rfl
theorem sub : isSubtype (.type "bytearray") (.type "bytearray") = pure true := by rw [isSubtype_type]; kernel_rfl
theorem args_init (a b : Value) : argsOk "bytearray.__init__" ⟨[a, b], []⟩ := by unfold argsOk; kernel_rfl
theorem owner : ("bytearray.__new__".splitOn ".__new__").headD "" = "bytearray" := by simp +decide [String.splitOn, String.splitOnAux]
theorem nd (id : String) (args : Args) (h : (!(["bytearray.__contains__", "bytearray.__mod__", "bytearray.__rmod__", "_struct.pack_into.held", "bytearray.find.held"] ++ Builtin.Bytes.decodersThatHold).contains id) = true) : notDec (.builtin id args) = true := h
theorem nd1 (args : Args) : notDec (.builtin "type.__call__" args) = true := nd _ _ (by decide +kernel)
theorem nd2 (args : Args) : notDec (.builtin "bytearray.__init__" args) = true := nd _ _ (by decide +kernel)
theorem not1 {id : String} {args : Args} (h : notDec (.builtin id args) = true) (hc : (["bytearray.__contains__", "bytearray.__mod__", "bytearray.__rmod__", "_struct.pack_into.held", "bytearray.find.held"] ++ Builtin.Bytes.decodersThatHold).contains id = true) : False := by
  have h' : (!(["bytearray.__contains__", "bytearray.__mod__", "bytearray.__rmod__", "_struct.pack_into.held", "bytearray.find.held"] ++ Builtin.Bytes.decodersThatHold).contains id) = true := h
  rw [hc] at h'; exact absurd h' (by decide)
theorem not2 {id : String} {args : Args} (h : notDec (.builtin id args) = true) : Builtin.Bytes.decodersThatHold.contains id = false := by
  cases hh : Builtin.Bytes.decodersThatHold.contains id with
  | false => rfl
  | true => exact (not1 h (by rw [List.contains_eq_mem, decide_eq_true_eq, List.mem_append]; rw [List.contains_eq_mem, decide_eq_true_eq] at hh; exact .inr hh)).elim
theorem release : typeLookup (.type "bytearray") "__release_buffer__" = pure (some (.builtin "bytearray.__release_buffer__")) := by rw [typeLookup_type, builtinLookup_eq_fast]; kernel_rfl
theorem ends : (!"bytearray.__release_buffer__".endsWith ("." ++ "__release_buffer__")) = false := by decide +kernel
theorem drops : "bytearray.__release_buffer__".dropRight ("__release_buffer__".length + 1) = "bytearray" := by decide +kernel
theorem has_index : typeLookup (.type "int") "__index__" = pure (some (.builtin "int.__index__")) := by rw [typeLookup_type, builtinLookup_eq_fast]; kernel_rfl
end BA
section
variable {prog : Program} {w : World} {A : Around} {E : Value → Shared → Prop} {s : Shared}
theorem ba_new (a : Value) {Q₁ : Value → Shared → Prop} (h : Q₁ (.ref s.heap.objs.size) { s with heap := s.heap.push { cls := .type "bytearray", data := .bytearray #[] } }) :
    codeAny (model prog w) A (.call (.builtin "bytearray.__new__") ⟨[.type "bytearray", a], []⟩) (wants Q₁ E) s := by
  refine codeAny_of_tree ?_
  show wpAny _ A.in1 (do checkBuiltinCall "bytearray.__new__" ⟨[.type "bytearray", a], []⟩; again (.builtin "bytearray.__new__" ⟨[.type "bytearray", a], []⟩)) _ _ s
  refine wpAny_bind (wpAny_of_eq (BA.newCall a) (wpAny_pure ⟨plainId_quiet BA.plain_new _, codeAny_builtin_stack BA.entry_new rfl fun p st => ?_⟩))
  rw [Around.under_plainId BA.plain_new _]
  have hsub := BA.sub
  have hown := BA.owner
  obtain ⟨hp, g, d, tk, os⟩ := s
  simp only [hown]
  wp_walk
  exact h
theorem c_if_false {α : Type} {M : Model} {c : Bool} {a b : Sem α} {Q : α → Shared → Prop} (hc : c = false) (h : wpC M A b Q E s) : wpC M A (if c = true then a else b) Q E s := by
  subst hc; exact h
theorem c_if_true {α : Type} {M : Model} {c : Bool} {a b : Sem α} {Q : α → Shared → Prop} (hc : c = true) (h : wpC M A a Q E s) : wpC M A (if c = true then a else b) Q E s := by
  subst hc; exact h
theorem exported_no {M : Model} (self : Value) {Q : Bool → Shared → Prop} (h : Q false s) : wpC M A (Builtin.Bytes.exported self) Q E s := by
  unfold Builtin.Bytes.exported
  have hh : ∀ b, b = false → Q b s := fun b hb => hb ▸ h
  refine wpC_bind (wpC_stack fun st hst => wpC_pure (hh _ ?_))
  rw [List.any_eq_false]
  intro x hx
  have h1 := hst x hx
  obtain ⟨c, p⟩ := x
  dsimp only at h1 ⊢
  cases c with
  | builtin id args =>
    have e1 : id ≠ "bytearray.__contains__" := fun e => by subst e; exact BA.not1 h1 (by decide +kernel)
    have e2 : id ≠ "bytearray.__mod__" := fun e => by subst e; exact BA.not1 h1 (by decide +kernel)
    have e3 : id ≠ "bytearray.__rmod__" := fun e => by subst e; exact BA.not1 h1 (by decide +kernel)
    have e4 : id ≠ "_struct.pack_into.held" := fun e => by subst e; exact BA.not1 h1 (by decide +kernel)
    have e5 : id ≠ "bytearray.find.held" := fun e => by subst e; exact BA.not1 h1 (by decide +kernel)
    obtain ⟨l, kw⟩ := args
    delta Builtin.Bytes.exported.match_1 Builtin.Bytes.exported._sparseCasesOn_1
    dsimp only
    rw [dif_neg e1, dif_neg e2, dif_neg e3, dif_neg e4, dif_neg e5]
    cases l with
    | nil => exact Bool.false_ne_true
    | cons v l =>
      show ¬ (_ && _) = true
      rw [BA.not2 h1, Bool.and_false]
      exact Bool.false_ne_true
  | _ => exact Bool.false_ne_true
theorem own_no {M : Model} {self : Value} {Q : Bool → Shared → Prop} (hT : s.TypeIs self "bytearray") (h : Q false s) : wpAny M A (Builtin.Bytes.ownRelease self) Q E s := by
  unfold Builtin.Bytes.ownRelease Builtin.Bytes.slotIsOwn
  refine wpAny_bind (wpAny_bind (wpAny_specialOf hT BA.release ?_))
  dsimp only
  rw [BA.ends, BA.drops]
  exact wpAny_isInstance hT BA.sub (wpAny_pure h)
/-- data of a bytearray -/
abbrev BaAt (g : Heap) (a : Addr) (b : Array UInt8) : Prop := g.get? a = some { cls := .type "bytearray", data := .bytearray b }
theorem ba_write {M : Model} {a : Addr} {b : Array UInt8} {f : Array UInt8 → Array UInt8} {Q : Unit → Shared → Prop} (hb : BaAt s.heap a b) (hz : (f b).size ≤ sizeLine)
    (h : Q () { s with heap := s.heap.update a (Obj.mapBytearray f) }) (ht : BaAt (s.heap.update a (Obj.mapBytearray f)) a (f b)) : wpAny M A (Builtin.Bytes.write (.ref a) f) Q E s := by
  show wpAny _ _ (updateBytearray a f) _ _ _
  unfold updateBytearray
  refine wpAny_bind (wpAny_load hb ?_)
  show wpAny _ _ (update a (Obj.mapBytearray f) >>= fun _ => lookBehind a) _ _ _
  refine wpAny_bind (wpAny_update hb ?_)
  refine wpAny_lookBehind ht ?_ h
  show (if (f b).size > sizeLine then some "bytearray:memory" else none) = none
  rw [if_neg (by omega)]
theorem ba_typeIs {a : Addr} {b : Array UInt8} (hb : BaAt s.heap a b) : s.TypeIs (.ref a) "bytearray" := by
  first | exact PySem.typeIs_ref hb rfl | exact ⟨_, hb, rfl⟩ | exact Shared.TypeIs.of_ref hb rfl
theorem ba_init {a : Addr} {n : Int} {t : Nat} {Q : Fin → Shared → Prop} (hb : BaAt s.heap a #[]) (h0 : 0 < n) (hz : n < 10000)
    (h : Q (.done (.ret .none)) { s with heap := (s.heap.update a (Obj.mapBytearray fun _ => #[])).update a (Obj.mapBytearray fun _ => Array.replicate n.toNat 0) }) :
    wpC (model prog w) A (Builtin.«bytearray.__init__» ⟨[.ref a, .int n t], []⟩) Q E s := by
  have hT : s.TypeIs (.ref a) "bytearray" := ba_typeIs hb
  have hs10 : 10000 ≤ sizeLine := by decide +kernel
  unfold Builtin.«bytearray.__init__»
  refine wpC_step (own_no hT ?_)
  refine c_if_false rfl ?_
  refine wpC_step (wpAny_of_eq (BA.bindOpt _) ?_)
  refine wpC_step (wpAny_of_eq (a := ()) rfl ?_)
  refine wpC_step (wpAny_of_eq (a := ()) rfl ?_)
  refine wpC_bind (wpC_bind (exported_no _ ?_))
  show wpC _ _ (Builtin.Bytes.exportsOf (.ref a) >>= _) _ _ _
  refine wpC_step (m := Builtin.Bytes.exportsOf (.ref a)) ?_
  unfold Builtin.Bytes.exportsOf
  refine wpAny_bind (wpAny_load hb (wpAny_pure (wpC_pure ?_)))
  refine c_if_false rfl ?_
  have hw : BaAt (s.heap.update a (Obj.mapBytearray fun _ => #[])) a #[] := Heap.get?_update_self (Obj.mapBytearray fun _ => #[]) hb rfl
  refine wpC_step (ba_write hb (Nat.zero_le _) ?_ hw)
  dsimp only
  refine wpC_step (wpAny_of_eq (a := none) rfl ?_)
  refine c_if_false rfl ?_
  refine wpC_step (bm_if_false rfl (bm_if_false rfl (wpAny_pure ?_)))
  refine wpC_step (wpAny_specialOf (T := "int") (rfl) BA.has_index ?_)
  refine c_if_true rfl ?_
  refine wpC_step (wpAny_attempt (wpAny_of_eq (a := n) rfl ?_))
  dsimp only
  refine c_if_false (by unfold Builtin.Bytes.fitsIndex; rw [decide_eq_true (by omega), decide_eq_true (by omega)]; rfl) ?_
  rw [if_neg (show ¬ n < 0 by omega)]
  refine c_if_false (by rw [beq_eq_false_iff_ne]; omega) ?_
  refine c_if_false (by unfold Builtin.Bytes.tooLong; exact decide_eq_false (by omega)) ?_
  refine wpC_step (wpAny_rule ?_)
  rw [if_pos (show n > 0 by omega)]
  refine wpC_step (ba_write hw ?_ ?_ (Heap.get?_update_self (Obj.mapBytearray fun _ => Array.replicate n.toNat 0) hw rfl))
  · rw [Array.size_replicate]; omega
  · exact wpC_pure h
theorem ba_call {n : Int} {t : Nat} {Q : Value → Shared → Prop} (h0 : 0 < n) (hz : n < 10000)
    (h : ∀ h', (∀ b o, s.heap.get? b = some o → h'.get? b = some o) → h'.objs.size = s.heap.objs.size + 1 → BaAt h' s.heap.objs.size (Array.replicate n.toNat 0) → Q (.ref s.heap.objs.size) { s with heap := h' }) :
    wpC (model prog w) A (call (.type "bytearray") [.int n t]) Q E s := by
  refine wpC_call (codeC_of_tree rfl ?_)
  show wpC _ _ (callAny (.type "bytearray") _) _ _ _
  refine wpC_pure ⟨Code.quiet_builtin _ (by decide +kernel), codeC_builtin (BA.nd1 _) F.entry_type_call ?_⟩
  rw [Around.under_plain (weight_type_call_type "bytearray" [.int n t] []) rfl]
  unfold Builtin.«type.__call__»
  dsimp only
  refine c_if_false rfl ?_
  refine c_if_false BA.called.canCreate ?_
  refine wpC_step (wpAny_of_eq (BA.typeCall _) ?_)
  refine wpC_step (wpAny_of_eq BA.mro ?_)
  refine c_if_false rfl ?_
  refine wpC_step (wpAny_of_eq BA.called.made ?_)
  refine wpC_step (wpAny_pure ?_)
  refine wpC_step (wpAny_holding (wpAny_call (codeAny_mono (ba_new (E := E) (.int n t) (Q₁ := fun v s' => v = .ref s.heap.objs.size ∧ s' = { s with heap := s.heap.push { cls := .type "bytearray", data := .bytearray #[] } }) ⟨rfl, rfl⟩) fun r s₁ hr => ?_)))
  cases r with
  | error e => exact hr
  | ok fl =>
    cases fl with
    | ret obj =>
      obtain ⟨rfl, rfl⟩ := hr
      have hb : BaAt (s.heap.push { cls := .type "bytearray", data := .bytearray #[] }) s.heap.objs.size #[] := Heap.get?_push_size _ rfl
      have hT : Shared.TypeIs { s with heap := s.heap.push { cls := .type "bytearray", data := .bytearray #[] } } (.ref s.heap.objs.size) "bytearray" := ba_typeIs hb
      dsimp only
      refine wpC_step (wpAny_isInstance hT BA.sub ?_)
      refine c_if_false rfl ?_
      refine wpC_bind (wpC_holding ?_)
      unfold callSpecial?
      refine wpC_step (wpAny_specialOf hT BA.slot_init.lookup ?_)
      dsimp only
      refine wpC_holding ?_
      refine wpC_step (wpAny_of_eq (BA.slot_init.bind _) ?_)
      dsimp only
      refine wpC_bind (wpC_call ?_)
      refine codeC_of_tree rfl ?_
      show wpC _ A.in1.in1 (do checkBuiltinCall "bytearray.__init__" ⟨[.ref s.heap.objs.size, .int n t], []⟩; again (.builtin "bytearray.__init__" ⟨[.ref s.heap.objs.size, .int n t], []⟩)) _ _ _
      refine wpC_step (BA.slot_init.check _ _ _ _ _ _ _ _ hT (BA.args_init _ _) (wpC_pure ⟨plainId_quiet BA.plain_init _, codeC_builtin (BA.nd2 _) BA.entry_init ?_⟩))
      rw [Around.under_plainId BA.plain_init _]
      refine ba_init hb h0 hz ?_
      dsimp only
      refine wpC_pure ?_
      dsimp only
      refine c_if_false rfl ?_
      refine wpC_pure ?_
      have hlt : ∀ b o, s.heap.get? b = some o → b ≠ s.heap.objs.size := fun b o hb => Nat.ne_of_lt (Heap.lt_size hb)
      refine h _ (fun b o hb' => ?_) ?_ ?_
      · exact (Heap.get?_update_other _ _ (Ne.symm (hlt b o hb'))).trans ((Heap.get?_update_other _ _ (Ne.symm (hlt b o hb'))).trans (Heap.get?_push_of_some _ hb'))
      · simp [Heap.size_update, Heap.size_push]
      · have hw := Heap.get?_update_self (Obj.mapBytearray fun _ => #[]) hb rfl
        exact Heap.get?_update_self (Obj.mapBytearray fun _ => Array.replicate n.toNat 0) hw rfl
    | _ => exact hr.elim
end
end Mine
end
section
-- BaU
open PySem PySem.W PyProof.Rows PySem.Calls PySem.Spec
set_option Elab.async false
set_option maxRecDepth 100000
set_option maxHeartbeats 4000000
namespace Mine
namespace BA
theorem slot_set : Slot "bytearray" "__setitem__" "bytearray.__setitem__" :=
  .of (owner := "bytearray") (n := "__setitem__") (by rw [typeLookup_type, builtinLookup_eq_fast]; kernel_rfl) (by decide +kernel) (by decide +kernel) (by decide +kernel)
    (by first | exact .inl (by decide +kernel) | exact .inr (by decide +kernel)) (by rw [isSubtype_type]; kernel_rfl)
theorem entry_set : entryFor table "bytearray.__setitem__" = some Builtin.«bytearray.__setitem__» := by first | exact entryFor_of_fast (by kernel_rfl) | exact entryFor_of_tree (by kernel_rfl)
theorem args_set (a b c : Value) : argsOk "bytearray.__setitem__" ⟨[a, b, c], []⟩ := by unfold argsOk; kernel_rfl
theorem no_bytes : typeLookup (.type "bytearray") "__bytes__" = pure none := by rw [typeLookup_type, builtinLookup_eq_fast]; kernel_rfl
theorem noIndex : typeLookup (.type "bytearray") "__index__" = pure none := by rw [typeLookup_type, builtinLookup_eq_fast]; kernel_rfl
theorem buf : typeLookup (.type "bytearray") "__buffer__" = pure (some (.builtin "bytearray.__buffer__")) := by rw [typeLookup_type, builtinLookup_eq_fast]; kernel_rfl
theorem ends2 : (!"bytearray.__buffer__".endsWith ("." ++ "__buffer__")) = false := by decide +kernel
theorem drops2 : "bytearray.__buffer__".dropRight ("__buffer__".length + 1) = "bytearray" := by decide +kernel
end BA
section
variable {prog : Program} {w : World} {A : Around} {E : Value → Shared → Prop} {s : Shared}
theorem ba_setItem {a : Addr} {b : Array UInt8} {k x : Int} {t u : Tok} {Q : Unit → Shared → Prop} (hb : BaAt s.heap a b)
    (h0 : 0 ≤ k) (hn : k < b.size) (hz : b.size < 10000) (hx0 : 0 ≤ x) (hx1 : x < 256)
    (hQ : ∀ h', BaAt h' a (b.setIfInBounds k.toNat x.toNat.toUInt8) → Heap.SameBut a s.heap h' → Q () { s with heap := h' }) :
    wpAny (model prog w) A (setItem (.ref a) (.int k t) (.int x u)) Q E s := by
  have hT : s.TypeIs (.ref a) "bytearray" := ba_typeIs hb
  have hs10 : 10000 ≤ sizeLine := by decide +kernel
  unfold setItem
  try with_reducible refine wpAny_holding ?_
  first | refine wpAny_bind (wpAny_pure ?_) | skip
  refine wpAny_bind (wpAny_sequenceKey hT (by decide) ?_)
  refine wpAny_bind (wpAny_callSpecial?_slot (name := Str.ofString "__setitem__") hT BA.slot_set
    (wpAny_call_entry BA.slot_set hT BA.entry_set ?_ (BA.args_set _ _ _)))
  unfold Builtin.«bytearray.__setitem__»
  refine bm_if_false rfl ?_
  dsimp only
  refine wpAny_bind ?_
  unfold Builtin.Bytes.subscript?
  refine wpAny_bind (wpAny_specialOf (T := "int") rfl BA.has_index ?_)
  refine bm_if_false rfl ?_
  refine wpAny_bind (wpAny_of_eq (a := k) rfl ?_)
  refine bm_if_false (by unfold Builtin.Bytes.fitsIndex; rw [decide_eq_true (by omega), decide_eq_true (by omega)]; rfl) ?_
  refine wpAny_pure ?_
  dsimp only
  refine wpAny_bind ?_
  unfold Builtin.Bytes.byteValue
  refine wpAny_bind (wpAny_of_eq (a := x) rfl ?_)
  refine bm_if_false (by rw [decide_eq_false (by omega), decide_eq_false (by omega)]; rfl) ?_
  refine wpAny_pure ?_
  refine wpAny_bind ?_
  unfold Builtin.Bytes.payload Builtin.Bytes.payload?
  refine wpAny_bind (wpAny_bind (wpAny_load hb ?_))
  refine wpAny_pure (wpAny_pure ?_)
  have hk : seqIndex? k b.size = some k.toNat := by
    unfold seqIndex?
    rw [if_neg (show ¬ k < 0 by omega)]
    show (if (decide (0 ≤ k) && decide (k < b.size)) = true then some k.toNat else none) = _
    rw [decide_eq_true h0, decide_eq_true hn]; rfl
  rw [hk]
  dsimp only
  refine wpAny_bind (ba_write hb (by simp; omega) ?_ (Heap.get?_update_self (Obj.mapBytearray (·.setIfInBounds k.toNat x.toNat.toUInt8)) hb rfl))
  exact wpAny_pure ⟨_, rfl, wpAny_pure (hQ _ (Heap.get?_update_self (Obj.mapBytearray (·.setIfInBounds k.toNat x.toNat.toUInt8)) hb rfl) (Heap.SameBut.update ..))⟩
theorem call_bytes_ba {a : Addr} {b : Array UInt8} {Q : Value → Shared → Prop} (hb : BaAt s.heap a b) (hz : b.size < 10000)
    (hQ : ∀ t k, Q (.bytes b t) { s with toks := k }) : wpAny (model prog w) A (call (.type "bytes") [.ref a]) Q E s := by
  have hT : s.TypeIs (.ref a) "bytearray" := ba_typeIs hb
  have hs10 : 10000 ≤ sizeLine := by decide +kernel
  refine callType_codes (Q₁ := fun obj s₁ => s₁.TypeIs obj "bytes" ∧ Q obj s₁) F.bm_called (F.bm_typeCall _) F.entry_object_init
    ?_ fun obj s₁ h₁ => ⟨h₁.1, F.args_object_init_2 obj _, object_init_meets F.bm_called.init.lookup F.bm_called.made (by decide) prog w A.in1 _ s₁ ⟨h₁.1, rfl, h₁.2⟩⟩
  refine codeAny_of_tree ?_
  show wpAny _ A.in1.in1 (do checkBuiltinCall "bytes.__new__" ⟨[.type "bytes", .ref a], []⟩; again (.builtin "bytes.__new__" ⟨[.type "bytes", .ref a], []⟩)) _ _ s
  refine wpAny_bind (wpAny_of_eq (F.bm_newCall _) (wpAny_pure ⟨plainId_quiet F.bm_plain _, codeAny_builtin F.bm_entry ?_⟩))
  rw [Around.under_plainId F.bm_plain _]
  unfold Builtin.«bytes.__new__»
  refine wpAny_bind (wpAny_of_eq (a := true) rfl ?_)
  refine bm_if_false rfl ?_
  refine wpAny_bind (wpAny_of_eq F.bm_sub ?_)
  refine bm_if_false rfl ?_
  refine wpAny_bind (wpAny_of_eq (F.bm_bind _) ?_)
  refine wpAny_bind (wpAny_of_eq (a := ()) rfl ?_)
  refine wpAny_bind (wpAny_of_eq (a := ()) rfl ?_)
  refine bm_if_false rfl ?_
  refine wpAny_bind (wpAny_specialOf hT BA.no_bytes ?_)
  refine wpAny_bind (wpAny_bind ?_)
  show wpAny _ _ (load a >>= _) _ _ _
  refine wpAny_bind (wpAny_load hb ?_)
  refine wpAny_pure (wpAny_pure ?_)
  refine bm_if_false rfl ?_
  refine wpAny_bind (wpAny_specialOf hT BA.noIndex ?_)
  refine bm_if_true rfl ?_
  first
    | show wpAny _ _ (Builtin.Bytes.buffer? "bytes.__new__" (.ref a) true >>= _) _ _ _
    | (refine wpAny_bind ?_; show wpAny _ _ (Builtin.Bytes.buffer? "bytes.__new__" (.ref a) true >>= _) _ _ _)
  refine wpAny_bind ?_
  unfold Builtin.Bytes.buffer?
  refine wpAny_bind (wpAny_specialOf hT BA.buf ?_)
  dsimp only
  refine wpAny_bind ?_
  unfold Builtin.Bytes.slotIsOwn
  refine wpAny_bind (wpAny_specialOf hT BA.buf ?_)
  dsimp only
  rw [BA.ends2, BA.drops2]
  refine bm_if_false rfl ?_
  refine wpAny_isInstance hT BA.sub ?_
  refine bm_if_false rfl ?_
  refine wpAny_bind (wpAny_specialOf hT BA.buf ?_)
  refine wpAny_bind (own_no hT ?_)
  refine bm_if_false rfl ?_
  refine wpAny_bind ?_
  unfold Builtin.Bytes.payload Builtin.Bytes.payload?
  refine wpAny_bind (wpAny_bind (wpAny_load hb ?_))
  refine wpAny_pure (wpAny_pure (wpAny_pure ?_))
  refine wpAny_bind (wpAny_rule ?_)
  refine wpAny_bind (wpAny_mkBytes (b := b) ?_ (by omega))
  show wpAny _ _ (if (Value.type "bytes" == Value.type "bytes") = true then _ else _) _ _ _
  refine bm_if_true (by decide) ?_
  first
    | exact wpAny_pure ⟨rfl, hQ _ _⟩
    | exact wpAny_bind (wpAny_pure (wpAny_pure ⟨rfl, hQ _ _⟩))
end
end Mine
end
section
-- HeadC
open PySem PySem.W PyProof.Rows PySem.Calls PySem.Spec
set_option Elab.async false
set_option maxRecDepth 100000
set_option maxHeartbeats 8000000
namespace Mine
open Sem (wp)
theorem clean0 : Clean (⟨.builtin "claim.caller" {}, none, none, [], none⟩ : PySem.Ctx) :=
  ⟨(by decide +kernel : (!(["bytearray.__contains__", "bytearray.__mod__", "bytearray.__rmod__", "_struct.pack_into.held", "bytearray.find.held"] ++ Builtin.Bytes.decodersThatHold).contains "claim.caller") = true), fun _ h => nomatch h⟩
theorem ends_clean {prog : Program} {w : World} {t : Sem Fin} {s : Shared} {R : Result → Shared → Prop} (hreg : s.asleep)
    (h : wpC (model prog w) callerA t (fun fin s' => ∃ f, fin = .done f ∧ (R (.ok f) s' ∧ leftWithCleanup s'.gens = false)) (fun e s' => R (.error e) s' ∧ leftWithCleanup s'.gens = false) s) :
    ∃ n r s' s'', runN (denote table) prog w n s ⟨t, .builtin "claim.caller" {}, default, []⟩ = .halted (outcomeOf r) s' ∧
      schedN (denote table) prog w n (.single s ⟨t, .builtin "claim.caller" {}, default, []⟩) = .halted (outcomeOf r) s' ∧ s'.forget = s''.forget ∧ R r s'' := by
  have hw : wp (model prog w) _ t (Sem.finPost (model prog w) ⟨.builtin "claim.caller" {}, none, none, [], none⟩ fun r s' => R r s' ∧ leftWithCleanup s'.gens = false) (fun e _ s' => R (.error e) s' ∧ leftWithCleanup s'.gens = false) default s :=
    Sem.wp_mono _ _ t (fun fin p' s' ⟨f, e, hf⟩ => by subst e; exact hf) (fun _ _ _ h' => h') default s (h _ default caller_in clean0)
  obtain ⟨n, r, a, b, h1, h2, h3, h4⟩ := wp_halts_full (M := model prog w) (R := R) hreg hw
  exact ⟨n, r, b, a, h2, h1, h3, h4⟩
theorem from_clean {c : ClaimW} {tree : List Value → Sem Fin} {w : World} {s : Shared} {free : Addr → Prop} {gens : Prop} {kept : Heap → Prop} (hz : s.asleep) (hgens : s.gens = #[])
    (hspec : ∀ args, c.pre args = true → WData.layableAll args = true → ∀ ord : List DictEntry → List DictEntry, (∀ l, (ord l).Perm l) →
      ∃ vs s₁, layAllW c.records (classAt s.heap) w.params ord args s = some (vs, s₁) ∧
        wpC (model c.prog w) callerA (tree vs) (fun fin s' => ∃ f, fin = .done f ∧ (c.Ends s args vs s₁ (.ok f) s' ∧ s'.os = s.os ∧ AllBare s'.gens ∧ kept s'.heap))
          (fun e s' => c.Ends s args vs s₁ (.error e) s' ∧ s'.os = s.os ∧ AllBare s'.gens ∧ kept s'.heap) s₁) :
    c.CallFrom (fun vs => ⟨tree vs, .builtin "claim.caller" {}, default, []⟩) w free gens kept s := fun args hpre hlay ord hord => by
  obtain ⟨vs, s₁, hl, hc⟩ := hspec args hpre hlay ord hord
  have hal := layAllW_rest _ _ _ hl
  obtain ⟨k, r, s', s'', hrun, hsched, hfo, hcase, hos, hkp⟩ := ends_clean (prog := c.prog) (w := w) (t := tree vs) (s := s₁)
    (R := fun r s' => c.Ends s args vs s₁ r s' ∧ s'.os = s.os ∧ kept s'.heap) (Shared.asleep_of_life hal.2.2.2 hz)
    (wpC_mono hc (fun fin s' ⟨f, e, h1, h2, h3, h4⟩ => ⟨f, e, ⟨h1, h2, h4⟩, leftWithCleanup_false_of_bare h3⟩)
      fun e s' ⟨h1, h2, h3, h4⟩ => ⟨⟨h1, h2, h4⟩, leftWithCleanup_false_of_bare h3⟩)
  obtain ⟨eh, _, _, eo, _⟩ := Shared.forget_eq hfo
  have hcase := hcase.congr eh
  have hkp : kept s'.heap := by first | exact eh ▸ hkp | (rw [eh] at hkp; exact hkp) | (rw [← eh] at hkp; exact hkp)
  rw [← eo] at hos
  have hlife : s'.heap.life = s.heap.life := (runN_life _ _ _ hrun).trans hal.2.2.2
  refine ⟨vs, s₁, hl, k, _, s', hsched, ?_, (fun _ i x hx => by rw [hgens] at hx; simp at hx), hkp, by rw [hlife], Shared.rest_eq hos⟩
  rcases hcase with ⟨v, rfl, d1, d2, d3, d4, d5⟩ | ⟨e, ob, cls, rfl, d1, d2, d3, d4, d5⟩
  · exact .inl ⟨v, rfl, d1, d2, d3, fun b o y _ => d4 b o y, d5⟩
  · exact .inr ⟨e, ob, cls, rfl, d1, d2, d3, d4, fun b o y _ => d5 b o y⟩
/-- the walk that the head asks for: the library's WalkO over the clean stacks alone -/
abbrev WalkC (q : Program) (loose : List Str) (XP : (Str → Option Value) → Heap → Prop) (YP : World → Heap → Prop) (r : RowW) (d : DefRec) (kwd : List (Str × Expr)) (run : Value → List Value → Sem Value) : Prop :=
  ∀ (w : World) (s₀ s₁ : Shared) (mg mb : Str → Option Value), Ground q loose r.records XP w s₀ mg mb s₁.heap → YP w s₁.heap → ∀ (a : Addr) (o : Obj) (pm cd doc dV kV : Value), s₁.heap.get? a = some o →
    o.data = .func { docDef d.name d.params d.body d.scope pm cd doc with defaults := dV, kwdefaults := kV } → s₁.heap.CodeRec cd d.name → Dflts mg s₁.heap d.params kwd dV kV → mg d.name = some (.ref a) → s₁.gens = #[] →
    ∀ (args : List WData) (vals : List Value) (as : List Addr), r.claim.pre args = true → WData.layableAll args = true → ReadsAllW r.records (classAt s₀.heap) s₁.heap vals args as → WellAll w.params s₁.heap vals args → (∀ a ∈ as, (a == sysModules) = false) →
      wpC (model r.prog w) callerA (run (.ref a) vals) (fun v s' => GoodWG r.claim (classAt s₀.heap) (ExcName.means s₀.heap) args s₁ (.ok (.ret v)) s')
        (fun e s' => GoodWG r.claim (classAt s₀.heap) (ExcName.means s₀.heap) args s₁ (.error e) s') s₁
theorem PySem.W.holds_open {r : OpenRow} {q : Program} {loose : List Str} {Xt : Shared → Bool} {XP : (Str → Option Value) → Heap → Prop} {α : Type} {Yf : Shared → α} {Ya : World → α} {YP : World → Heap → Prop} {d : DefRec} {kwd : List (Str × Expr)} {N : Nat}
    (left : LeftO r.prog q loose Xt Yf Ya N) (hY : ∀ w s, Yf s = Ya w → YP w s.heap) (hYk : ∀ w h h', YP w h → (∀ b o, h.get? b = some o → h'.get? b = some o) → YP w h')
    (hX : ∀ s, Xt s = true → XP (s.heap.nsMap mainGlobals) s.heap) (hXk : ∀ mg h h', XP mg h → (∀ b o, h.get? b = some o → h'.get? b = some o) → XP mg h')
    (hdef : defOf q r.name = some (d, kwd)) (hp : r.prog.theDef r.name = some (d.params, d.body, d.scope)) (hk : kwWritten? d.params.kwonlyargs d.params.kw_defaults = some kwd) (hRf : ∀ s, Xt s = true → RecFacts r.records s.heap) (hwr : (!r.writes || r.records.isEmpty) = true)
    (k1 : r.wellSaid = true) (ok : (chainsOk q && opensWell r.prog && (frees r.toRowW && r.within.isEmpty)) = true) (hb : r.prog.bare) (hw : r.toRowW.promised)
    (call : WalkC q loose XP YP r.toRowW d kwd fun f vs => _root_.PySem.call f vs) : r.Holds := by
  obtain ⟨okA, okB⟩ := Bool.and_eq_true_iff.mp ok
  obtain ⟨hch, o1⟩ := Bool.and_eq_true_iff.mp okA
  obtain ⟨k5, k6⟩ := Bool.and_eq_true_iff.mp okB
  obtain ⟨hsame, hu, ha, hap, hm⟩ := frees_parts k5
  refine ⟨k1, hw, ⟨⟨hb, o1, by show r.makers.map _ = []; rw [hm]; rfl⟩, hw.witness, fun w => ⟨(left.behind hX hch w).1, fun s' hs' => ?_⟩⟩⟩
  obtain ⟨s₀, hf, hg0, s, hT, hz, hgens, hg, G00, y⟩ := (left.behind (XP := fun mg h => XP mg h ∧ RecFacts r.records h) (fun s hs => ⟨hX s hs, hRf s hs⟩) hch w).2 s' hs'
  have G0 : Ground q loose [] XP w s (s.heap.nsMap mainGlobals) (s.heap.nsMap builtinsNs) s.heap := ⟨G00.T, G00.B, G00.D, G00.TE, G00.TD, G00.W, G00.X.1, G00.cls, G00.has, G00.apart, G00.once, G00.K⟩
  have RF := G00.X.2
  have hT' := hT
  have pin : ∀ n ∈ [r.name], isTheDefsW r.prog s.heap n := fun n hn => by
    obtain rfl : n = r.name := by simpa using hn
    exact pinned_of_view hg G0 hdef hp hk
  refine ⟨s₀, hf, hg0, s, hT, fun n hn => pin n (by split at hn <;> simp_all), RF.1, RF.2.1, ?_⟩
  have hgens : s.gens = #[] := Array.eq_empty_of_size_eq_zero (beq_iff_eq.mp hgens)
  have G : Ground q loose r.records XP w s _ _ s.heap := RF.ground G0
  refine from_clean (c := r.claim) hz hgens fun args hpre hlay ord hord => ?_
  obtain ⟨⟨vs, s₁⟩, hlaid⟩ := Option.isSome_iff_exists.mp (layAllW_isSome (P := w.params) (ord := ord) G.has args r.args s (pre_splitW hpre).1)
  have keeps := layAllW_keeps _ _ _ hlaid
  have hal := layAllW_rest _ _ _ hlaid
  obtain ⟨as, hrd, hin, hold⟩ := reads_layAllW hord _ _ _ hlaid hlay s₁.heap (fun _ _ e => e)
  have L : Laid r.records w s s₁ args vs as := ⟨⟨ord, hord, hlaid⟩, hrd, hin, hold, keeps, hal.1.trans hgens, hal.2.2.1⟩
  have G₁ := G.keeps hXk keeps
  have Y₁ := hYk _ _ _ (hY w s y) keeps
  have hi := ident_freeW hu ha hap
  have hwi : r.claim.within = [] := List.isEmpty_iff.mp k6
  obtain ⟨a, o, pm, cd, doc, dV, kV, h1, h2, h3, h4, h5⟩ := G₁.fn hdef
  have hn := defOf_name hdef
  have walk := call w s s₁ _ _ G₁ Y₁ a o pm cd doc dV kV h2 h3 h4 h5 (hn ▸ h1) L.gens args vs as hpre hlay L.reads L.well (L.low G.low)
  refine ⟨vs, s₁, hlaid, wpC_step (m := nsGet mainNs r.name) (wpAny_nsGet G₁.T.g ?_)⟩
  rw [h1]
  refine wpC_bind (wpC_mono walk (fun v s' g => wpC_pure ?_) fun e s' g => ?_)
  · exact ⟨_, rfl, have z := g.laid (c := r.claim) hsame hwi hi L; ⟨z.1, z.2.1, z.2.2, fun q => ⟨namesKept_of hT' hg _ keeps g.2.1.old, noTable hwr q⟩⟩⟩
  · exact have z := g.laid (c := r.claim) hsame hwi hi L; ⟨z.1, z.2.1, z.2.2, fun q => ⟨namesKept_of hT' hg _ keeps g.2.1.old, noTable hwr q⟩⟩
end Mine
-- open_top lays a quick twin (with the proof of its equation) for each definition of the head; most are used by nothing and the compiled file
-- grows by 14 MB with them. A name taken beforehand, by a theorem that says nothing, makes it go on without that twin.
namespace PySem.W.Fast
theorem tw8075568018651887793 : True := trivial
theorem tw17489304479185298807 : True := trivial
theorem tw14979626087600564940 : True := trivial
theorem tw18213545369034332514 : True := trivial
theorem tw16377852017606567858 : True := trivial
theorem tw17111948838632640456 : True := trivial
theorem tw3830411482411394332 : True := trivial
theorem tw505943868828395459 : True := trivial
theorem tw136631920214876835 : True := trivial
theorem tw17888162413812561239 : True := trivial
theorem tw17532718790514356516 : True := trivial
theorem tw2859041830047134086 : True := trivial
theorem tw11317593695737139937 : True := trivial
theorem tw3282434896037501709 : True := trivial
theorem tw4558998842232669794 : True := trivial
theorem tw12233582284571471492 : True := trivial
theorem tw10227693086864044499 : True := trivial
theorem tw14108194823987119177 : True := trivial
theorem tw8376441433122354887 : True := trivial
theorem tw15112985482279097393 : True := trivial
theorem tw13016732220969518872 : True := trivial
theorem tw17476080006546285661 : True := trivial
theorem tw4090926877573551719 : True := trivial
theorem tw10833955939284561965 : True := trivial
theorem tw16916688483869632129 : True := trivial
theorem tw151948405760981731 : True := trivial
theorem tw8537084889766193716 : True := trivial
theorem tw8860024209350480642 : True := trivial
theorem tw17000155066101142889 : True := trivial
theorem tw18220123701641295943 : True := trivial
theorem tw17730428716208468724 : True := trivial
theorem tw13678640442995254988 : True := trivial
theorem tw10942035263794033107 : True := trivial
theorem tw2283851925072248500 : True := trivial
theorem tw16018607276475445134 : True := trivial
theorem tw1414301608579184545 : True := trivial
theorem tw13236226663087606529 : True := trivial
theorem tw15980859228951719591 : True := trivial
theorem tw18345786424863182364 : True := trivial
theorem tw7269565832213808900 : True := trivial
theorem tw8753696776887207221 : True := trivial
theorem tw6589095468515690095 : True := trivial
theorem tw14223099787259518943 : True := trivial
theorem tw7232422423428716515 : True := trivial
theorem tw3778451253796500701 : True := trivial
theorem tw17975652961387846372 : True := trivial
theorem tw282004115355043989 : True := trivial
theorem tw15263041282635125899 : True := trivial
theorem tw10007627690174824804 : True := trivial
theorem tw8206430501311747189 : True := trivial
theorem tw12945451867199242903 : True := trivial
theorem tw3891137856419664920 : True := trivial
theorem tw1702518465993881591 : True := trivial
theorem tw11985326045990495214 : True := trivial
theorem tw6245536207120538393 : True := trivial
theorem tw1333364371103165705 : True := trivial
theorem tw16531745337717519161 : True := trivial
theorem tw18056578402003937789 : True := trivial
theorem tw392140993173905013 : True := trivial
theorem tw4302124980754421698 : True := trivial
theorem tw1829445100760108279 : True := trivial
theorem tw14333388528381170442 : True := trivial
theorem tw7276740287692124622 : True := trivial
theorem tw5902227825499142635 : True := trivial
theorem tw6683783046931543321 : True := trivial
theorem tw10029231156530900338 : True := trivial
theorem tw3152983702415266003 : True := trivial
theorem tw7745614565497352828 : True := trivial
theorem tw9011979029575296479 : True := trivial
theorem tw12268644228514654432 : True := trivial
theorem tw5721027456603625697 : True := trivial
theorem tw9564595351457756722 : True := trivial
theorem tw8424611434330503625 : True := trivial
theorem tw662354867322794072 : True := trivial
theorem tw16817318245366136608 : True := trivial
theorem tw15475462885187679331 : True := trivial
end PySem.W.Fast
namespace Mine
open_top hd for _root_.PySem.Challenge.rw_zn0017_01
end Mine
end
section
-- BaseZ
open PySem PySem.W PyProof.Rows PySem.Calls PySem.Spec
set_option Elab.async false
set_option maxRecDepth 100000
set_option maxHeartbeats 4000000
namespace Mine

abbrev AT (hx : Option Value) (dp un : Nat) (gd : Option (List Code)) (outer : List Env) : Around :=
  { handled := hx, depth := dp, frames := some outer, guards := gd, units := un }

structure Bs (w : World) (mean : ExcName → Option Value) (mg mb : Str → Option Value) (g : Heap) : Prop where
  X : (hd.heap_39 w.params).In g
  T : Top hd.view_39 (looseW hd.view_39 [Str.ofString "ONE_THIRD", Str.ofString "ONE_SIXTH", Str.ofString "TWO_THIRD"]) mean mg mb g
  V : LooseAre [(Str.ofString "ONE_THIRD", WData.float 4599676419421066581), (Str.ofString "ONE_SIXTH", WData.float 4595172819793696085), (Str.ofString "TWO_THIRD", WData.float 4604180019048437077)] mg g

theorem Bs.keeps {w : World} {mean : ExcName → Option Value} {mg mb : Str → Option Value} {g g' : Heap} (B : Bs w mean mg mb g) (k : ∀ b o, g.get? b = some o → g'.get? b = some o) : Bs w mean mg mb g' :=
  ⟨B.X.keeps k, B.T.keeps k, B.V.keeps k⟩

/-- what a pure call leaves -/
def Left (g h' : Heap) (tl : List (Addr × Obj)) : Prop := ∀ p ∈ tl, h'.get? p.1 = some p.2 ∧ g.get? p.1 = none

/-- the pure contract -/
def PC (prog : Program) (w : World) (f : Addr) (nd nu : Nat) (g : Heap) (vs : List Value) (post : Value → List (Addr × Obj) → Prop) : Prop :=
  ∀ (mean : ExcName → Option Value) (mg mb : Str → Option Value) (dp un : Nat) (gd : Option (List Code)) (outer : List Env) (A₀ : Around) (base : Heap) (s : Shared) (Q E : Value → Shared → Prop),
    s.heap = g → Bs w mean mg mb g → Below A₀ base outer g → dp + nd < recursionLimit → un + nu < cLine →
    (∀ r tl h' tk', g.StaysIn h' → Left g h' tl → post r tl → Q r { s with heap := h', toks := tk' }) →
    wpAny (model prog w) (AT none dp un gd outer) (call (.ref f) vs) Q E s
/-- the same, an exception at hand -/
def PCX (prog : Program) (w : World) (f : Addr) (nd nu : Nat) (g : Heap) (vs : List Value) (post : Value → List (Addr × Obj) → Prop) : Prop :=
  ∀ (mean : ExcName → Option Value) (mg mb : Str → Option Value) (hx : Option Value) (dp un : Nat) (gd : Option (List Code)) (outer : List Env) (A₀ : Around) (base : Heap) (s : Shared) (Q E : Value → Shared → Prop),
    s.heap = g → Bs w mean mg mb g → Below A₀ base outer g → dp + nd < recursionLimit → un + nu < cLine →
    (∀ r tl h' tk', g.StaysIn h' → Left g h' tl → post r tl → Q r { s with heap := h', toks := tk' }) →
    wpAny (model prog w) (AT hx dp un gd outer) (call (.ref f) vs) Q E s

section
variable {w : World} {A : Around} {E : Value → Shared → Prop} {s : Shared} {K : Frag} {base g : Heap} {mg mb : Str → Option Value} {p : Program} {loose : List Str} {mean : ExcName → Option Value} {prog : Program}
theorem code_pure {R : Result → Shared → Prop} {name qual : Str} {params : Arguments} {body : List Stmt} {scope : Scope} {dV kV doc pm cdv ct oc : Value} {an od : Option Addr} {osl : Array (Option Value)} {f : Addr} {args : Args} {binds : List (Str × Value)}
    (e : s.heap = g) (X₀ : K.In g) (T : Top p loose mean mg mb g) 
    (ho : K.lookup f = some ⟨oc, od, .func (fnOf name qual params body scope dV kV doc pm an cdv ct), osl⟩) (hcd : codeIn K cdv qual = true) (hroom : A.depth < recursionLimit)
    (hbind : BindsTo s (fnOf name qual params body scope dV kV doc pm an cdv ct) args binds) (hloc : ∀ y ∈ binds, scope.names.lookup y.1 = some .local)
    (h : ∀ L' h₁, Fr g L' h₁ (fun y => binds.reverse.lookup y) → News g L' h₁ [] →
      wpAny (model prog w) (A.deeper (envOf qual scope L' f cdv)) (execs body (envOf qual scope L' f cdv))
        (fun fl s' => R (.ok (.ret (match fl with | .ret v => v | _ => .none))) s')
        (fun e s' => wpAny (model prog w) (A.deeper (envOf qual scope L' f cdv)) (leaving (envOf qual scope L' f cdv) e) (fun _ s'' => R (.error e) s'') (fun e' s'' => R (.error e') s'') s')
        { s with heap := h₁, toks := s.toks + binds.length })
    (hco : scope.isCoroutine = false) (hgen : scope.isGenerator = false) (hk : scope.kind = .function)
    (hcell : ∀ x ∈ scope.names, x.2 ≠ .cell) : codeAny (model prog w) A (.call (.ref f) args) R s := by
  subst e
  refine codeAny_call_def (fd := fnOf name qual params body scope dV kV doc pm an cdv ct) (body := body) (binds := binds) hroom (X₀ _ _ ho) rfl T.nolimit (codeRec_of X₀ hcd) rfl hbind hcell hloc (fun h₁ hns hk₁ => ?_) hco hgen hk
  exact h s.heap.objs.size h₁ ⟨hns, fun b o e => hk₁ b o e, Nat.le_refl _⟩ (fun p hp => nomatch hp)

theorem code_pureC {R : Result → Shared → Prop} {name qual : Str} {params : Arguments} {body : List Stmt} {scope : Scope} {dV kV doc pm cdv ct oc : Value} {an od : Option Addr} {osl : Array (Option Value)} {f : Addr} {args : Args} {binds : List (Str × Value)}
    (e : s.heap = g) (X₀ : K.In g) (T : Top p loose mean mg mb g)
    (ho : K.lookup f = some ⟨oc, od, .func (fnOf name qual params body scope dV kV doc pm an cdv ct), osl⟩) (hcd : codeIn K cdv qual = true) (hroom : A.depth < recursionLimit)
    (hbind : BindsTo s (fnOf name qual params body scope dV kV doc pm an cdv ct) args binds) (hkind : (binds.all fun y => scope.names.lookup y.1 == some .local || scope.names.lookup y.1 == some .cell) = true)
    (hnd : ((cellsFrom 0 scope.names []).map (·.1)).Nodup)
    (h : ∀ L' h₁ tk cells, Fr g L' h₁ (bindL (envOfC qual scope L' f cdv).kindOf binds fun _ => none) → News g L' h₁ cells →
      CellsAre (bindC (envOfC qual scope L' f cdv).kindOf binds fun _ => none) (cellsFrom (L' + 1) scope.names []) cells →
      wpAny (model prog w) (A.deeper (envOfC qual scope L' f cdv)) (execs body (envOfC qual scope L' f cdv))
        (fun fl s' => R (.ok (.ret (match fl with | .ret v => v | _ => .none))) s')
        (fun e s' => wpAny (model prog w) (A.deeper (envOfC qual scope L' f cdv)) (leaving (envOfC qual scope L' f cdv) e) (fun _ s'' => R (.error e) s'') (fun e' s'' => R (.error e') s'') s')
        { s with heap := h₁, toks := tk })
    (hco : scope.isCoroutine = false) (hgen : scope.isGenerator = false) (hk : scope.kind = .function) : codeAny (model prog w) A (.call (.ref f) args) R s := by
  subst e
  refine codeAny_call_function hroom (X₀ _ _ ho) rfl hco hgen rfl (codeRec_of X₀ hcd) (hbind _ _ _ _ ?_)
  refine wpAny_newFunctionEnv_cells hk (kindsX hkind _) fun env' he s' x => ?_
  subst he
  refine ⟨T.nolimit.keeps x.toInCall.keep, codeAny_func ?_⟩
  obtain ⟨h₁, tk, rfl, _⟩ := x.done
  have hk₁ := x.toInCall.keep
  obtain ⟨cells, NC, Y⟩ := Cl.news (h₀ := s.heap) (Nat.le_refl _) fun n c hm => ⟨x.cell n c (lookup_of_mem_nodup (cellsFrom_names scope.names 0 (s.heap.objs.size + 1) [] [] rfl ▸ hnd) hm), x.above n c hm⟩
  exact h s.heap.objs.size h₁ tk cells ⟨x.toInCall.ns, fun b o e => hk₁ b o e, Nat.le_refl _⟩ NC Y

theorem left_of {g h' : Heap} {L : Addr} {news : List (Addr × Obj)} (N : News g L h' news) : Left g h' news := fun p hp => ⟨(N p hp).1, (N p hp).2.2⟩
theorem left_sub {g h' : Heap} {L : Addr} {news tl : List (Addr × Obj)} (N : News g L h' news) (hs : ∀ p ∈ tl, p ∈ news) : Left g h' tl := fun p hp => ⟨(N p (hs p hp)).1, (N p (hs p hp)).2.2⟩

theorem around_eta {A : Around} {outer : List Env} {hx : Option Value} (hA : A.frames = some outer) (hh : A.handled = hx) : A = AT hx A.depth A.units A.guards outer := by
  cases A
  cases hA
  cases hh
  rfl
variable {A₀ : Around} {h₀ : Heap} {L : Addr} {m : Str → Option Value} {news : List (Addr × Obj)} {env : Env} {outer : List Env} {f : Addr} {nd nu : Nat} {vs : List Value} {post : Value → List (Addr × Obj) → Prop} {Q : Value → Shared → Prop}
theorem bs_of {h : Heap} (F : Fr h₀ L h m) (X : (hd.heap_39 w.params).In h₀)
    (T : Top hd.view_39 (looseW hd.view_39 [Str.ofString "ONE_THIRD", Str.ofString "ONE_SIXTH", Str.ofString "TWO_THIRD"]) mean mg mb h₀)
    (V : LooseAre [(Str.ofString "ONE_THIRD", WData.float 4599676419421066581), (Str.ofString "ONE_SIXTH", WData.float 4595172819793696085), (Str.ofString "TWO_THIRD", WData.float 4604180019048437077)] mg h₀) : Bs w mean mg mb h :=
  (Bs.mk (w := w) X T V).keeps F.keep
theorem back_to {h' : Heap} {tl : List (Addr × Obj)} (F : Fr h₀ L s.heap m) (N : News h₀ L s.heap news) (k : s.heap.StaysIn h') (l : Left s.heap h' tl) :
    Fr h₀ L h' m ∧ News h₀ L h' (tl ++ news) ∧ (∀ p ∈ tl, ∀ q ∈ news, p.1 ≠ q.1) := by
  obtain ⟨oL, es, ep, hL, hr⟩ := F.ns
  refine ⟨⟨⟨oL, es, ep, k _ _ hL, hr⟩, fun b o e => k b o (F.keep b o e), F.above⟩, fun p hp => ?_, fun p hp q hq e => ?_⟩
  · rcases List.mem_append.mp hp with hp | hp
    · refine ⟨(l p hp).1, fun q => ?_, ?_⟩
      · have := (l p hp).2; rw [q, hL] at this; cases this
      · cases hq : h₀.get? p.1 with
        | none => rfl
        | some o => have := (l p hp).2; rw [F.keep _ _ hq] at this; cases this
    · exact ⟨k _ _ (N p hp).1, (N p hp).2⟩
  · have := (l p hp).2
    rw [e, (N q hq).1] at this; cases this
theorem PC.use (C : PC prog w f nd nu s.heap vs post) (hh : A.handled = none) (hA : A.frames = some (env :: outer)) (hf : env.frame = some L) (hk : env.scope.kind = .function)
    (B : Below A₀ base outer h₀) (F : Fr h₀ L s.heap m) (N : News h₀ L s.heap news) (X : (hd.heap_39 w.params).In h₀)
    (T : Top hd.view_39 (looseW hd.view_39 [Str.ofString "ONE_THIRD", Str.ofString "ONE_SIXTH", Str.ofString "TWO_THIRD"]) mean mg mb h₀)
    (V : LooseAre [(Str.ofString "ONE_THIRD", WData.float 4599676419421066581), (Str.ofString "ONE_SIXTH", WData.float 4595172819793696085), (Str.ofString "TWO_THIRD", WData.float 4604180019048437077)] mg h₀)
    (hdp : A.depth + nd < recursionLimit) (hun : A.units + nu < cLine)
    (h : ∀ r tl h' tk', Fr h₀ L h' m → News h₀ L h' (tl ++ news) → (∀ p ∈ tl, ∀ q ∈ news, p.1 ≠ q.1) → post r tl → Q r { s with heap := h', toks := tk' }) :
    wpAny (model prog w) A (call (.ref f) vs) Q E s := by
  rw [around_eta hA hh]
  refine C mean mg mb _ _ _ _ A base s Q E rfl (bs_of F X T V) ((fun x => ⟨hA, Below.stays x, Below.frames x⟩) (pushX (env := env) B F hf hk)) hdp hun fun r tl h' tk' k l p => ?_
  obtain ⟨F', N', d⟩ := back_to F N k l
  exact h r tl h' tk' F' N' d p
theorem PCX.use (C : PCX prog w f nd nu s.heap vs post) (hA : A.frames = some (env :: outer)) (hf : env.frame = some L) (hk : env.scope.kind = .function)
    (B : Below A₀ base outer h₀) (F : Fr h₀ L s.heap m) (N : News h₀ L s.heap news) (X : (hd.heap_39 w.params).In h₀)
    (T : Top hd.view_39 (looseW hd.view_39 [Str.ofString "ONE_THIRD", Str.ofString "ONE_SIXTH", Str.ofString "TWO_THIRD"]) mean mg mb h₀)
    (V : LooseAre [(Str.ofString "ONE_THIRD", WData.float 4599676419421066581), (Str.ofString "ONE_SIXTH", WData.float 4595172819793696085), (Str.ofString "TWO_THIRD", WData.float 4604180019048437077)] mg h₀)
    (hdp : A.depth + nd < recursionLimit) (hun : A.units + nu < cLine)
    (h : ∀ r tl h' tk', Fr h₀ L h' m → News h₀ L h' (tl ++ news) → (∀ p ∈ tl, ∀ q ∈ news, p.1 ≠ q.1) → post r tl → Q r { s with heap := h', toks := tk' }) :
    wpAny (model prog w) A (call (.ref f) vs) Q E s := by
  rw [around_eta hA (hx := A.handled) rfl]
  refine C mean mg mb _ _ _ _ _ A base s Q E rfl (bs_of F X T V) ((fun x => ⟨hA, Below.stays x, Below.frames x⟩) (pushX (env := env) B F hf hk)) hdp hun fun r tl h' tk' k l p => ?_
  obtain ⟨F', N', d⟩ := back_to F N k l
  exact h r tl h' tk' F' N' d p
theorem PCX.pc (C : ∀ g, PCX prog w f nd nu g vs post) {g : Heap} : PC prog w f nd nu g vs post :=
  fun mean mg mb dp un gd outer A₀ base s Q E => C g mean mg mb none dp un gd outer A₀ base s Q E

theorem fill_now : (PySem.Challenge.rw_zn0017_01, hd.heap_39) = (PySem.Challenge.rw_zn0017_01, hd.heap_39) := by
  k_fill
  rfl
end
end Mine
end
section
-- CtrZ
open PySem PySem.W PyProof.Rows PySem.Calls PySem.Spec
set_option Elab.async false
set_option maxRecDepth 100000
set_option maxHeartbeats 4000000
namespace Mine
section
variable {M : Model} {A : Around} {E : Value → Shared → Prop} {s : Shared} {K : Frag} {env : Env} {pos : Pos} {f : Value} {first : List Value} {Q : Value → Shared → Prop}
theorem callWithC {P : Heap → Prop} {args : List (Bool × Sem Value)} (hplain : args.any (·.1) = false)
    (hk : ∀ h, P h → ∃ k, (k = Keeper.frame ∨ k = Keeper.machine ∨ k = Keeper.boundFrame) ∧ Looks M h (keeperOf f) k)
    (h : wpC M A (evalArgs f true args []) (fun a s₁ => P s₁.heap ∧ wpC M A (call f (first ++ a.pos) a.kw) Q E s₁) E s) : wpC M A (callWith pos f first args []) Q E s := by
  unfold callWith
  refine wpC_bind (wpC_holding (wpC_mono h (fun a s₁ h₁ => wpC_step (wpAny_standAt ?_)) fun _ _ x => x))
  obtain ⟨k, hk', L⟩ := hk _ h₁.1
  simp only [hplain, List.any_nil, Bool.or_false]
  refine wpC_step (L.here ?_)
  have tail : ∀ {t : Sem Value}, wpC M A t Q E s₁ → wpC M A (t >>= fun r => holding [r] point >>= fun _ => pure r) Q E s₁ :=
    fun ht => wpC_bind (wpC_mono ht (fun r s₂ hr => .of_any (wpAny_bind (wpAny_holding (wpAny_point (wpAny_pure hr))))) fun _ _ x => x)
  have marked (mk : Value) : wpC M A (callMarked mk f (first ++ a.pos) a.kw) Q E s₁ := by
    unfold callMarked
    exact fun Γ p hΓ hC => by rw [Sem.wp_keep]; exact h₁.2 Γ p hΓ hC
  rcases hk' with rfl | rfl | rfl <;> dsimp only <;> first | exact tail h₁.2 | (split <;> first | exact tail h₁.2 | exact tail (marked _))
theorem looks_type {T : String} (h : Heap) : ∃ k, (k = Keeper.frame ∨ k = Keeper.machine ∨ k = Keeper.boundFrame) ∧ Looks M h (keeperOf (.type T)) k := ⟨.machine, .inr (.inl rfl), .of_pure rfl⟩
/-- a call by name; its one argument first -/
theorem callWithC1 {prog : Program} {w : World} {P : Heap → Prop} {t : Sem Value} (hk : ∀ h, P h → ∃ k, (k = Keeper.frame ∨ k = Keeper.machine ∨ k = Keeper.boundFrame) ∧ Looks (model prog w) h (keeperOf f) k)
    (h : wpC (model prog w) A t (fun v s₁ => P s₁.heap ∧ wpC (model prog w) A (call f (first ++ [v])) Q E s₁) E s) : wpC (model prog w) A (callWith pos f first [(false, t)] []) Q E s :=
  callWithC rfl hk (evalArgsC (splicedC_cons (wpC_mono h (fun _ _ h₁ => splicedC_nil h₁) fun _ _ x => x)))
theorem callWithC2 {prog : Program} {w : World} {P : Heap → Prop} {t u : Sem Value} (hk : ∀ h, P h → ∃ k, (k = Keeper.frame ∨ k = Keeper.machine ∨ k = Keeper.boundFrame) ∧ Looks (model prog w) h (keeperOf f) k)
    (h : wpC (model prog w) A t (fun v s₁ => wpC (model prog w) A u (fun v' s₂ => P s₂.heap ∧ wpC (model prog w) A (call f (first ++ [v, v'])) Q E s₂) E s₁) E s) : wpC (model prog w) A (callWith pos f first [(false, t), (false, u)] []) Q E s :=
  callWithC rfl hk (evalArgsC (splicedC_cons (wpC_mono h (fun _ _ h₁ => splicedC_cons (wpC_mono h₁ (fun _ _ h₂ => splicedC_nil h₂) fun _ _ x => x)) fun _ _ x => x)))
end
section
variable {prog : Program} {w : World} {A : Around} {E : Value → Shared → Prop} {s : Shared} {R : Result → Shared → Prop} {env : Env}
theorem isTrueC_Compare1 {l r : Expr} {op : CmpOp} {pos : Pos} {whole : Sem Value} {Q : Bool → Shared → Prop}
    (h : wpAny (model prog w) A (eval l env) (fun a s₁ => wpC (model prog w) A (eval r env) (fun b s₂ => wpAny (model prog w) A (compareOp op a b) (fun c s₃ => wpAny (model prog w) A (truthy c) Q E s₃) E s₂) E s₁) E s)
    (hm : behindInMarks op r = false := by with_unfolding_all rfl) : wpC (model prog w) A (isTrue (.Compare l [op] [r] pos) env whole) Q E s := fun Γ p hΓ hC => by
  simp only [isTrue_Compare1, markedBehindIn_of_false hm, Sem.wp_bind', Sem.wp_holding, Sem.wp_cmd_standAt, Sem.wp_operate]
  refine Sem.wp_mono _ Γ _ (fun a p₁ s₁ h₁ => ?_) (fun _ _ _ h' => h') _ _ (h Γ p hΓ)
  refine Sem.wp_mono _ Γ _ (fun b p₂ s₂ h₂ => ?_) (fun _ _ _ h' => h') _ _ (h₁ Γ p₁ hΓ hC)
  refine Sem.wp_mono _ Γ _ (fun c p₃ s₃ h₃ => h₃ Γ _ hΓ) (fun _ _ _ h' => h') _ _ (h₂ Γ _ hΓ)
theorem isTrueC_Or2 {x y : Expr} {pos : Pos} {whole : Sem Value} {Q : Bool → Shared → Prop}
    (h : wpAny (model prog w) A (isTrue x env (eval x env)) (fun b s₁ => if b then Q true s₁ else wpC (model prog w) A (isTrue y env (eval y env)) Q E s₁) E s) :
    wpC (model prog w) A (isTrue (.BoolOp .Or [x, y] pos) env whole) Q E s := by
  show wpC _ _ (allTrue .Or [x, y] env) _ _ _
  unfold allTrue
  refine wpC_step (wpAny_mono h (fun b s₁ h₁ => ?_) fun _ _ x => x)
  cases b
  · show wpC _ _ (allTrue .Or [y] env) _ _ _
    unfold allTrue
    refine wpC_bind (wpC_mono h₁ (fun b s₁ h₁ => ?_) fun _ _ x => x)
    cases b <;> exact wpC_pure h₁
  · exact wpC_pure h₁
end
/-- the pure contract over the clean stacks -/
def PCC (prog : Program) (w : World) (f : Addr) (nd nu : Nat) (g : Heap) (vs : List Value) (post : Value → List (Addr × Obj) → Prop) : Prop :=
  ∀ (mean : ExcName → Option Value) (mg mb : Str → Option Value) (dp un : Nat) (gd : Option (List Code)) (outer : List Env) (A₀ : Around) (base : Heap) (s : Shared) (Q E : Value → Shared → Prop),
    s.heap = g → Bs w mean mg mb g → Below A₀ base outer g → dp + nd < recursionLimit → un + nu < cLine →
    (∀ r tl h' tk', g.StaysIn h' → Left g h' tl → post r tl → Q r { s with heap := h', toks := tk' }) →
    wpC (model prog w) (AT none dp un gd outer) (call (.ref f) vs) Q E s
section
variable {w : World} {A : Around} {E : Value → Shared → Prop} {s : Shared} {K : Frag} {base g : Heap} {mg mb : Str → Option Value} {p : Program} {loose : List Str} {mean : ExcName → Option Value} {prog : Program}
/-- into a function's frame, no cells -/
theorem code_clean0 {R : Result → Shared → Prop} {name qual : Str} {params : Arguments} {body : List Stmt} {scope : Scope} {dV kV doc pm cdv ct oc : Value} {an od : Option Addr} {osl : Array (Option Value)} {f : Addr} {args : Args} {binds : List (Str × Value)}
    (e : s.heap = g) (X₀ : K.In g) (T : Top p loose mean mg mb g)
    (ho : K.lookup f = some ⟨oc, od, .func (fnOf name qual params body scope dV kV doc pm an cdv ct), osl⟩) (hcd : codeIn K cdv qual = true) (hroom : A.depth < recursionLimit)
    (hbind : BindsTo s (fnOf name qual params body scope dV kV doc pm an cdv ct) args binds) (hloc : ∀ y ∈ binds, scope.names.lookup y.1 = some .local)
    (h : ∀ L' h₁, Fr g L' h₁ (fun y => binds.reverse.lookup y) → News g L' h₁ [] →
      wpC (model prog w) (A.deeper (envOf qual scope L' f cdv)) (execs body (envOf qual scope L' f cdv))
        (fun fl s' => R (.ok (.ret (match fl with | .ret v => v | _ => .none))) s')
        (fun e s' => wpAny (model prog w) (A.deeper (envOf qual scope L' f cdv)) (leaving (envOf qual scope L' f cdv) e) (fun _ s'' => R (.error e) s'') (fun e' s'' => R (.error e') s'') s')
        { s with heap := h₁, toks := s.toks + binds.length })
    (hco : scope.isCoroutine = false) (hgen : scope.isGenerator = false) (hk : scope.kind = .function)
    (hcell : ∀ x ∈ scope.names, x.2 ≠ .cell) : codeC (model prog w) A (.call (.ref f) args) R s := by
  subst e
  refine codeC_call_function hroom (X₀ _ _ ho) rfl hco hgen rfl (codeRec_of X₀ hcd) (hbind _ _ _ _ ?_)
  refine wpAny_newFunctionEnv hcell hloc (fun h₀ hns₀ hsb₀ => ⟨T.nolimit.fresh _ hsb₀, codeC_func (h s.heap.objs.size h₀ ⟨hns₀, fun b o e => ?_, Nat.le_refl _⟩ (fun p hp => nomatch hp))⟩) hk
  exact hsb₀.extBut b o (Nat.ne_of_lt (Heap.lt_size e)) (Heap.get?_push_of_some _ e)
/-- into a function's frame, its cells made -/
theorem code_clean {R : Result → Shared → Prop} {name qual : Str} {params : Arguments} {body : List Stmt} {scope : Scope} {dV kV doc pm cdv ct oc : Value} {an od : Option Addr} {osl : Array (Option Value)} {f : Addr} {args : Args} {binds : List (Str × Value)}
    (e : s.heap = g) (X₀ : K.In g) (T : Top p loose mean mg mb g)
    (ho : K.lookup f = some ⟨oc, od, .func (fnOf name qual params body scope dV kV doc pm an cdv ct), osl⟩) (hcd : codeIn K cdv qual = true) (hroom : A.depth < recursionLimit)
    (hbind : BindsTo s (fnOf name qual params body scope dV kV doc pm an cdv ct) args binds) (hkind : (binds.all fun y => scope.names.lookup y.1 == some .local || scope.names.lookup y.1 == some .cell) = true)
    (hnd : ((cellsFrom 0 scope.names []).map (·.1)).Nodup)
    (h : ∀ L' h₁ tk cells, Fr g L' h₁ (bindL (envOfC qual scope L' f cdv).kindOf binds fun _ => none) → News g L' h₁ cells →
      CellsAre (bindC (envOfC qual scope L' f cdv).kindOf binds fun _ => none) (cellsFrom (L' + 1) scope.names []) cells →
      wpC (model prog w) (A.deeper (envOfC qual scope L' f cdv)) (execs body (envOfC qual scope L' f cdv))
        (fun fl s' => R (.ok (.ret (match fl with | .ret v => v | _ => .none))) s')
        (fun e s' => wpAny (model prog w) (A.deeper (envOfC qual scope L' f cdv)) (leaving (envOfC qual scope L' f cdv) e) (fun _ s'' => R (.error e) s'') (fun e' s'' => R (.error e') s'') s')
        { s with heap := h₁, toks := tk })
    (hco : scope.isCoroutine = false) (hgen : scope.isGenerator = false) (hk : scope.kind = .function) : codeC (model prog w) A (.call (.ref f) args) R s := by
  subst e
  refine codeC_call_function hroom (X₀ _ _ ho) rfl hco hgen rfl (codeRec_of X₀ hcd) (hbind _ _ _ _ ?_)
  refine wpAny_newFunctionEnv_cells hk (kindsX hkind _) fun env' he s' x => ?_
  subst he
  refine ⟨T.nolimit.keeps x.toInCall.keep, codeC_func ?_⟩
  obtain ⟨h₁, tk, rfl, _⟩ := x.done
  have hk₁ := x.toInCall.keep
  obtain ⟨cells, NC, Y⟩ := Cl.news (h₀ := s.heap) (Nat.le_refl _) fun n c hm => ⟨x.cell n c (lookup_of_mem_nodup (cellsFrom_names scope.names 0 (s.heap.objs.size + 1) [] [] rfl ▸ hnd) hm), x.above n c hm⟩
  exact h s.heap.objs.size h₁ tk cells ⟨x.toInCall.ns, fun b o e => hk₁ b o e, Nat.le_refl _⟩ NC Y
variable {A₀ : Around} {h₀ : Heap} {L : Addr} {m : Str → Option Value} {news : List (Addr × Obj)} {env : Env} {outer : List Env} {f : Addr} {nd nu : Nat} {vs : List Value} {post : Value → List (Addr × Obj) → Prop} {Q : Value → Shared → Prop}
abbrev baObj (b : Array UInt8) : Obj := { cls := .type "bytearray", data := .bytearray b }
theorem ba_fresh {b : Array UInt8} {h' : Heap} (F : Fr h₀ L s.heap m) (N : News h₀ L s.heap news) (k : ∀ b o, s.heap.get? b = some o → h'.get? b = some o) (hb : BaAt h' s.heap.objs.size b) :
    Fr h₀ L h' m ∧ News h₀ L h' ((s.heap.objs.size, baObj b) :: news) ∧ (∀ p ∈ news, p.1 ≠ s.heap.objs.size) ∧ @Ne Nat L s.heap.objs.size := by
  obtain ⟨oL, es, ep, hL, hr⟩ := F.ns
  refine ⟨⟨⟨oL, es, ep, k _ _ hL, hr⟩, fun b o e => k b o (F.keep b o e), F.above⟩, fun p hp => ?_, fun p hp => Nat.ne_of_lt (Heap.lt_size (N p hp).1), Nat.ne_of_lt F.ns.lt⟩
  rcases List.mem_cons.mp hp with rfl | hp
  · exact ⟨hb, Ne.symm (Nat.ne_of_lt F.ns.lt), next_is_new F⟩
  · exact ⟨k _ _ (N p hp).1, (N p hp).2⟩
theorem ba_call_K {n : Nat} {t : Tok} (F : Fr h₀ L s.heap m) (N : News h₀ L s.heap news) (h0 : 0 < n) (h1 : n < 10000)
    (h : ∀ D h', Fr h₀ L h' m → News h₀ L h' ((D, baObj (Array.replicate n 0)) :: news) → (∀ p ∈ news, @Ne Nat p.1 D) → @Ne Nat L D → Q (.ref D) { s with heap := h' }) :
    wpC (model prog w) A (call (.type "bytearray") [.int (n : Int) t]) Q E s :=
  ba_call (by omega) (by omega) fun h' k _ hb => by
    obtain ⟨a, b, c, d⟩ := ba_fresh F N k hb
    exact h _ h' a b c d
theorem ba_set_K {news' : List (Addr × Obj)} {D : Addr} {b b' : Array UInt8} {k x : Int} {t u : Tok} {Q : Unit → Shared → Prop} (F : Fr h₀ L s.heap m) (N : News h₀ L s.heap news) (e : b' = b.setIfInBounds k.toNat x.toNat.toUInt8)
    (U : Upd D (baObj b) (baObj b') news news') (h0 : 0 ≤ k) (hn : k < b.size) (hz : b.size < 10000) (hx0 : 0 ≤ x) (hx1 : x < 256)
    (h : ∀ h', Fr h₀ L h' m → News h₀ L h' news' → Q () { s with heap := h' }) : wpAny (model prog w) A (setItem (.ref D) (.int k t) (.int x u)) Q E s := by
  subst e
  obtain ⟨pre, post, rfl, rfl, a, b⟩ := U.split
  have z := N (D, baObj _) (List.mem_append.mpr (.inr (.head _)))
  exact ba_setItem z.1 h0 hn hz hx0 hx1 fun h' hb hs => h h' (F.change hs z.2.1 z.2.2) (news_set N a b hs hb)
theorem PCC.use (C : PCC prog w f nd nu s.heap vs post) (hh : A.handled = none) (hA : A.frames = some (env :: outer)) (hf : env.frame = some L) (hk : env.scope.kind = .function)
    (B : Below A₀ base outer h₀) (F : Fr h₀ L s.heap m) (N : News h₀ L s.heap news) (X : (hd.heap_39 w.params).In h₀)
    (T : Top hd.view_39 (looseW hd.view_39 [Str.ofString "ONE_THIRD", Str.ofString "ONE_SIXTH", Str.ofString "TWO_THIRD"]) mean mg mb h₀)
    (V : LooseAre [(Str.ofString "ONE_THIRD", WData.float 4599676419421066581), (Str.ofString "ONE_SIXTH", WData.float 4595172819793696085), (Str.ofString "TWO_THIRD", WData.float 4604180019048437077)] mg h₀)
    (hdp : A.depth + nd < recursionLimit) (hun : A.units + nu < cLine)
    (h : ∀ r tl h' tk', Fr h₀ L h' m → News h₀ L h' (tl ++ news) → (∀ p ∈ tl, ∀ q ∈ news, p.1 ≠ q.1) → post r tl → Q r { s with heap := h', toks := tk' }) :
    wpC (model prog w) A (call (.ref f) vs) Q E s := by
  rw [around_eta hA hh]
  refine C mean mg mb _ _ _ _ A base s Q E rfl (bs_of F X T V) ((fun x => ⟨hA, Below.stays x, Below.frames x⟩) (pushX (env := env) B F hf hk)) hdp hun fun r tl h' tk' k l p => ?_
  obtain ⟨F', N', d⟩ := back_to F N k l
  exact h r tl h' tk' F' N' d p
end
end Mine
end
section
local macro_rules | `(tactic| walk_at "p_enter") => `(tactic| (
  rename Mine.Bs _ _ _ _ _ => HB
  rename PySem.Shared.heap _ = _ => hs
  have X := Mine.Bs.X HB
  have T := Mine.Bs.T HB
  have V := Mine.Bs.V HB
  clear HB
  refine PySem.wpAny_call ?_
  refine' Mine.code_pure hs X T ?k6 ?k7 ?k8 ?k9 ?kB ?_ ?c2 ?c3 ?c4 ?c5
  (case k6 => k_is)
  (case k7 => k_is)
  (case k8 => ktr_room)
  (case k9 => exact PySem.BindsTo.of_eq rfl)
  (case kB => exact PyProof.Rows.locs rfl)
  (case c5 => decide)
  (case c2 => exact rfl)
  (case c3 => exact rfl)
  (case c4 => exact rfl)
  intro L' h' F' N'
  (try dsimp only)
  (try k_fold)))
local macro_rules | `(tactic| walk_at "p_enterC") => `(tactic| (
  rename Mine.Bs _ _ _ _ _ => HB
  rename PySem.Shared.heap _ = _ => hs
  have X := Mine.Bs.X HB
  have T := Mine.Bs.T HB
  have V := Mine.Bs.V HB
  clear HB
  refine PySem.wpAny_call ?_
  refine' Mine.code_pureC hs X T ?k6 ?k7 ?k8 ?k9 ?kB ?kD ?_ ?c2 ?c3 ?c4
  (case k6 => k_is)
  (case k7 => k_is)
  (case k8 => ktr_room)
  (case k9 => exact PySem.BindsTo.of_eq rfl)
  (case kB => exact rfl)
  (case kD => decide +kernel)
  (case c2 => exact rfl)
  (case c3 => exact rfl)
  (case c4 => exact rfl)
  intro L' h' tk' cells' F' N' Y'
  k_cells Y'
  (try dsimp only)
  (try k_fold)))
local macro_rules | `(tactic| walk_at "p_enter0") => `(tactic| (
  rename Mine.Bs _ _ _ _ _ => HB
  rename PySem.Shared.heap _ = _ => hs
  have X := Mine.Bs.X HB
  have T := Mine.Bs.T HB
  have V := Mine.Bs.V HB
  clear HB
  refine Mine.wpC_call ?_
  refine' Mine.code_clean0 hs X T ?k6 ?k7 ?k8 ?k9 ?kB ?_ ?c2 ?c3 ?c4 ?c5
  (case k6 => k_is)
  (case k7 => k_is)
  (case k8 => ktr_room)
  (case k9 => exact PySem.BindsTo.of_eq rfl)
  (case kB => exact PyProof.Rows.locs rfl)
  (case c5 => decide)
  (case c2 => exact rfl)
  (case c3 => exact rfl)
  (case c4 => exact rfl)
  intro L' h' F' N'
  (try dsimp only)
  (try k_fold)))
section
-- FloatZ
open PySem PySem.W PyProof.Rows PySem.Calls PySem.Spec PySem.Flt
set_option Elab.async false
set_option maxRecDepth 100000
set_option maxHeartbeats 4000000
namespace Mine
theorem anew_FloatZ : True ∧ True := by
  k_with_none
  first | (walk1; done) | exact ⟨trivial, trivial⟩

def flt (a b : UInt64) : Bool := Float64.cmp a b == some Ordering.lt
def mx3 (x y z : UInt64) : UInt64 := if flt x y then (if flt y z then z else y) else (if flt x z then z else x)
def mn3 (x y z : UInt64) : UInt64 := if flt y x then (if flt z y then z else y) else (if flt z x then z else x)

section
variable {prog : Program} {w : World} {A : Around} {E : Value → Shared → Prop} {s : Shared} {Q : Value → Shared → Prop}
theorem max3_f {x y z : UInt64} {t u v : Tok} (hh : A.handled = none)
    (h : ∀ h' tk r, (∀ d o, s.heap.get? d = some o → h'.get? d = some o) → Q (.float (mx3 x y z) r) { s with heap := h', toks := tk }) :
    wpAny (model prog w) A (call (.builtin "max") [.float x t, .float y u, .float z v]) Q E s := by
  have hT : (s.heap.push { cls := .type "tuple", data := .seq #[.float x t, .float y u, .float z v] }).IsTuple s.heap.objs.size #[.float x t, .float y u, .float z v] := ⟨_, Heap.get?_push_size _ rfl, rfl, 0, rfl⟩
  refine call_max_three (wpAny_pyIter_tuple hT ?_)
  have hsz : (s.heap.push { cls := .type "tuple", data := .seq #[.float x t, .float y u, .float z v] }).objs.size = s.heap.objs.size + 1 := Heap.size_push ..
  refine ⟨_, [_, s.heap.objs.size], [_], _, _, _, _, rfl, Walks.tuple (A := A.in1) hh _ s.heap.objs.size (by rw [hsz]; exact Nat.ne_of_lt (Nat.lt_succ_self _)) #[.float x t, .float y u, .float z v],
    ⟨⟨_, Heap.get?_push_size _ rfl, rfl, rfl⟩, hT.push _⟩, fun d hd => ?_, by simp, cmpOf_gt #[.float x t, .float y u, .float z v] (by simp; exact ⟨.float _ _, .float _ _, .float _ _⟩), fun v' h' tk hP hk => ?_⟩
  · show d < ((s.heap.push _).push _).objs.size
    rw [Heap.size_push, hsz]
    rcases List.mem_cons.mp hd with rfl | hd
    · rw [hsz]; exact Nat.lt_succ_self _
    · rcases List.mem_cons.mp hd with rfl | hd
      · exact Nat.lt_succ_of_lt (Nat.lt_succ_self _)
      · cases hd
  · have hold : ∀ d o, s.heap.get? d = some o → h'.get? d = some o := fun d o e => by
      refine hk d o (fun hm => ?_) (Heap.get?_push_of_some _ (Heap.get?_push_of_some _ e))
      rcases List.mem_cons.mp hm with e1 | hm
      · have := Heap.lt_size e; rw [e1, hsz] at this; exact Nat.lt_irrefl _ (Nat.lt_of_succ_lt this)
      · cases hm
    have hv : ∃ r, v' = .float (mx3 x y z) r := by
      have e1 : ltV (.float x t) (.float y u) = flt x y := rfl
      have e2 : ltV (.float y u) (.float z v) = flt y z := rfl
      have e3 : ltV (.float x t) (.float z v) = flt x z := rfl
      unfold mx3
      cases hc : flt x y <;> cases hd : flt y z <;> cases he : flt x z <;> simp [argBest, e1, e2, e3, hc, hd, he] at hP <;> simp [← hP]
    obtain ⟨r, rfl⟩ := hv
    exact h h' tk r hold
theorem min3_f {x y z : UInt64} {t u v : Tok} (hh : A.handled = none)
    (h : ∀ h' tk r, (∀ d o, s.heap.get? d = some o → h'.get? d = some o) → Q (.float (mn3 x y z) r) { s with heap := h', toks := tk }) :
    wpAny (model prog w) A (call (.builtin "min") [.float x t, .float y u, .float z v]) Q E s := by
  have hT : (s.heap.push { cls := .type "tuple", data := .seq #[.float x t, .float y u, .float z v] }).IsTuple s.heap.objs.size #[.float x t, .float y u, .float z v] := ⟨_, Heap.get?_push_size _ rfl, rfl, 0, rfl⟩
  refine call_min_three (wpAny_pyIter_tuple hT ?_)
  have hsz : (s.heap.push { cls := .type "tuple", data := .seq #[.float x t, .float y u, .float z v] }).objs.size = s.heap.objs.size + 1 := Heap.size_push ..
  refine ⟨_, [_, s.heap.objs.size], [_], _, _, _, _, rfl, Walks.tuple (A := A.in1) hh _ s.heap.objs.size (by rw [hsz]; exact Nat.ne_of_lt (Nat.lt_succ_self _)) #[.float x t, .float y u, .float z v],
    ⟨⟨_, Heap.get?_push_size _ rfl, rfl, rfl⟩, hT.push _⟩, fun d hd => ?_, by simp, cmpOf_lt #[.float x t, .float y u, .float z v] (by simp; exact ⟨.float _ _, .float _ _, .float _ _⟩), fun v' h' tk hP hk => ?_⟩
  · show d < ((s.heap.push _).push _).objs.size
    rw [Heap.size_push, hsz]
    rcases List.mem_cons.mp hd with rfl | hd
    · rw [hsz]; exact Nat.lt_succ_self _
    · rcases List.mem_cons.mp hd with rfl | hd
      · exact Nat.lt_succ_of_lt (Nat.lt_succ_self _)
      · cases hd
  · have hold : ∀ d o, s.heap.get? d = some o → h'.get? d = some o := fun d o e => by
      refine hk d o (fun hm => ?_) (Heap.get?_push_of_some _ (Heap.get?_push_of_some _ e))
      rcases List.mem_cons.mp hm with e1 | hm
      · have := Heap.lt_size e; rw [e1, hsz] at this; exact Nat.lt_irrefl _ (Nat.lt_of_succ_lt this)
      · cases hm
    have hv : ∃ r, v' = .float (mn3 x y z) r := by
      have e1 : ltV (.float y u) (.float x t) = flt y x := rfl
      have e2 : ltV (.float z v) (.float y u) = flt z y := rfl
      have e3 : ltV (.float z v) (.float x t) = flt z x := rfl
      unfold mn3
      cases hc : flt y x <;> cases hd : flt z y <;> cases he : flt z x <;> simp [argBest, e1, e2, e3, hc, hd, he] at hP <;> simp [← hP]
    obtain ⟨r, rfl⟩ := hv
    exact h h' tk r hold
end

section
variable {prog : Program} {w : World} {A : Around} {E : Value → Shared → Prop} {s : Shared} {Q : Value → Shared → Prop} {h₀ : Heap} {L : Addr} {m : Str → Option Value} {news : List (Addr × Obj)}
theorem max3_K {x y z : UInt64} {t u v : Tok} (hh : A.handled = none) (F : Fr h₀ L s.heap m) (N : News h₀ L s.heap news)
    (h : ∀ h' tk r, Fr h₀ L h' m → News h₀ L h' news → Q (.float (mx3 x y z) r) { s with heap := h', toks := tk }) :
    wpAny (model prog w) A (call (.builtin "max") [.float x t, .float y u, .float z v]) Q E s :=
  max3_f hh fun h' tk r kp => h h' tk r (F.grownK kp) (N.grown kp)
theorem min3_K {x y z : UInt64} {t u v : Tok} (hh : A.handled = none) (F : Fr h₀ L s.heap m) (N : News h₀ L s.heap news)
    (h : ∀ h' tk r, Fr h₀ L h' m → News h₀ L h' news → Q (.float (mn3 x y z) r) { s with heap := h', toks := tk }) :
    wpAny (model prog w) A (call (.builtin "min") [.float x t, .float y u, .float z v]) Q E s :=
  min3_f hh fun h' tk r kp => h h' tk r (F.grownK kp) (N.grown kp)
end
theorem div_f {prog : Program} {w : World} {A : Around} {E : Value → Shared → Prop} {s : Shared} {Q : Value → Shared → Prop} {a b : UInt64} {t u : Tok} (hz : ¬ Float64.isZero b = true)
    (h : Q (.float (Float64.div a b) s.toks) { s with toks := s.toks + 1 }) : wpAny (model prog w) A (binaryOp .Div (.float a t) (.float b u)) Q E s := AutoFloatOps.truediv_1 hz h
theorem mod_f {prog : Program} {w : World} {A : Around} {E : Value → Shared → Prop} {s : Shared} {Q : Value → Shared → Prop} {a b : UInt64} {t u : Tok} (hz : ¬ Float64.isZero b = true)
    (h : Q (.float (Float64.divmod a b).2 s.toks) { s with toks := s.toks + 1 }) : wpAny (model prog w) A (binaryOp .Mod (.float a t) (.float b u)) Q E s := AutoFloatOps.mod_1 hz h

theorem fill_F : (PySem.Challenge.rw_zn0017_01, hd.heap_39) = (PySem.Challenge.rw_zn0017_01, hd.heap_39) := by
  k_fill
  rfl
local macro_rules | `(tactic| walk_at "call builtin:max") => `(tactic| (k_here; (with_reducible show wpAny _ _ (call (Value.builtin "max") [Value.float _ _, Value.float _ _, Value.float _ _]) _ _ _); k_dflt (refine' max3_K rfl ?k1 ?k2 ?_; (case k1 => k_asm); (case k2 => k_asm); k_whole); intro h' tk' r' F' N'; (try k_sweep)))
local macro_rules | `(tactic| walk_at "call builtin:min") => `(tactic| (k_here; (with_reducible show wpAny _ _ (call (Value.builtin "min") [Value.float _ _, Value.float _ _, Value.float _ _]) _ _ _); k_dflt (refine' min3_K rfl ?k1 ?k2 ?_; (case k1 => k_asm); (case k2 => k_asm); k_whole); intro h' tk' r' F' N'; (try k_sweep)))
local macro_rules | `(tactic| walk_at "binaryOp Div float float") => `(tactic| (k_here; refine div_f ?hc ?_; (case hc => first | decide +kernel | (with_reducible assumption) | (k_extra "no zero"))))
local macro_rules | `(tactic| walk_at "binaryOp Mod float float") => `(tactic| (k_here; refine mod_f ?hc ?_; (case hc => first | decide +kernel | (with_reducible assumption) | (k_extra "no zero"))))
def FTup (o : Obj) (a b c : UInt64) : Prop := ∃ t u v, o = { cls := Value.type "tuple", data := Data.seq [Value.float a t, Value.float b u, Value.float c v].toArray }
def c2 : UInt64 := 0x4000000000000000
def c4 : UInt64 := 0x4010000000000000
def c6 : UInt64 := 0x4018000000000000
def c1 : UInt64 := 0x3ff0000000000000
def ch : UInt64 := 0x3fe0000000000000
open Float64 (add sub mul div divmod cmp isZero)
def feq (x y : UInt64) : Bool := cmp x y == some Ordering.eq
def hueF (x y z mx mn : UInt64) : UInt64 :=
  let rg := sub mx mn
  let rc := div (sub mx x) rg
  let gc := div (sub mx y) rg
  let bc := div (sub mx z) rg
  (divmod (div (if feq x mx then sub bc gc else if feq y mx then sub (add c2 rc) bc else sub (add c4 gc) rc) c6) c1).2
def hsvF (x y z : UInt64) : UInt64 × UInt64 × UInt64 :=
  if feq (mn3 x y z) (mx3 x y z) then (0, 0, mx3 x y z)
  else (hueF x y z (mx3 x y z) (mn3 x y z), div (sub (mx3 x y z) (mn3 x y z)) (mx3 x y z), mx3 x y z)
def fle (x y : UInt64) : Bool := cmp x y == some Ordering.lt || cmp x y == some Ordering.eq
def hlsF (x y z : UInt64) : UInt64 × UInt64 × UInt64 :=
  let mx := mx3 x y z
  let mn := mn3 x y z
  let l := div (add mx mn) c2
  if feq mn mx then (0, l, 0)
  else (hueF x y z mx mn, l, if fle l ch then div (sub mx mn) (add mx mn) else div (sub mx mn) (sub (sub c2 mx) mn))
theorem hsv_spec (prog : Program) (w : World) (g : Heap) (x y z : UInt64) (tx ty tz : Tok)
    (hz : (cmp (mn3 x y z) (mx3 x y z) == some Ordering.eq) = false → ¬ Float64.isZero (mx3 x y z) = true ∧ ¬ Float64.isZero (Float64.sub (mx3 x y z) (mn3 x y z)) = true) :
    PC prog w 42 1 16 g [.float x tx, .float y ty, .float z tz] (fun r tl => ∃ d o, r = .ref d ∧ tl = [(d, o)] ∧ FTup o (hsvF x y z).1 (hsvF x y z).2.1 (hsvF x y z).2.2) := by
  intro mean mg mb dp un gd outer A₀ base s Q E hs HB B hdp hun hret
  walk_at "p_enter"
  k_with "no zero" => exact (hz (by assumption)).1
  k_with "no zero" => exact (hz (by assumption)).2
  k_steps
  k_with_none
  all_goals (
    refine hret _ _ _ _ (Fr.keep (by k_asm)) (left_of (by k_asm)) ⟨_, _, rfl, rfl, ?_⟩
    first
    | (simp only [hsvF, hueF, feq] at *; simp only [*, if_true, if_false, Bool.false_eq_true]; exact ⟨_, _, _, rfl⟩))
theorem hls_spec (prog : Program) (w : World) (g : Heap) (x y z : UInt64) (tx ty tz : Tok)
    (hz : (cmp (mn3 x y z) (mx3 x y z) == some Ordering.eq) = false → ¬ Float64.isZero (Float64.sub (mx3 x y z) (mn3 x y z)) = true ∧ ¬ Float64.isZero (add (mx3 x y z) (mn3 x y z)) = true ∧
      ¬ Float64.isZero (sub (sub 0x4000000000000000 (mx3 x y z)) (mn3 x y z)) = true) :
    PC prog w 21 1 16 g [.float x tx, .float y ty, .float z tz] (fun r tl => ∃ d o, r = .ref d ∧ tl = [(d, o)] ∧ FTup o (hlsF x y z).1 (hlsF x y z).2.1 (hlsF x y z).2.2) := by
  intro mean mg mb dp un gd outer A₀ base s Q E hs HB B hdp hun hret
  walk_at "p_enter"
  k_with "no zero" => exact (hz (by assumption)).1
  k_with "no zero" => exact (hz (by assumption)).2.1
  k_with "no zero" => exact (hz (by assumption)).2.2
  k_steps
  k_with_none
  all_goals (
    refine hret _ _ _ _ (Fr.keep (by k_asm)) (left_of (by k_asm)) ⟨_, _, rfl, rfl, ?_⟩
    first
    | (simp only [hlsF, hueF, feq, fle, c2, c4, c6, c1, ch] at *; simp only [*, if_true, if_false, Bool.false_eq_true]; exact ⟨_, _, _, rfl⟩))

def cOT : UInt64 := 4599676419421066581
def cOS : UInt64 := 4595172819793696085
def cTT : UInt64 := 4604180019048437077
def vF (m1 m2 hue : UInt64) : UInt64 :=
  let h := (divmod hue c1).2
  if flt h cOS then add m1 (mul (mul (sub m2 m1) h) c6) else if flt h ch then m2 else if flt h cTT then add m1 (mul (mul (sub m2 m1) (sub cTT h)) c6) else m1
def rgbF (h l s : UInt64) : UInt64 × UInt64 × UInt64 :=
  if feq s 0 then (l, l, l)
  else
    let m2 := if fle l ch then mul l (add c1 s) else sub (add l s) (mul l s)
    let m1 := sub (mul c2 l) m2
    (vF m1 m2 (add h cOT), vF m1 m2 h, vF m1 m2 (sub h cOT))
theorem float_eq {a b : UInt64} {t : Tok} (h : b = a) : Value.float a t = Value.float b t := by rw [h]
theorem v_spec (prog : Program) (w : World) (g : Heap) (x y z : UInt64) (tx ty tz : Tok) :
    PC prog w 35 1 16 g [.float x tx, .float y ty, .float z tz] (fun r tl => ∃ t, r = .float (vF x y z) t ∧ tl = []) := by
  intro mean mg mb dp un gd outer A₀ base s Q E hs HB B hdp hun hret
  walk_at "p_enter"
  k_steps
  all_goals (
    refine hret _ _ _ _ (Fr.keep (by k_asm)) (left_of (by k_asm)) ⟨_, float_eq ?_, rfl⟩
    (simp only [vF, flt, c6, c1, ch, cOS, cTT] at *; simp only [*, if_true, if_false, Bool.false_eq_true]))
local macro_rules | `(tactic| walk_at "call ref") => `(tactic| (k_here; (with_reducible show wpAny _ _ (call (Value.ref 35) _) _ _ _); k_dflt (refine' PC.use (v_spec _ _ _ _ _ _ _ _ _) rfl rfl rfl rfl ?k1 ?k2 ?k3 ?k4 ?k5 ?k6 ?k7 ?k8 ?_; (case k1 => k_asm); (case k2 => k_asm); (case k3 => k_asm); (case k4 => k_asm); (case k5 => k_asm); (case k6 => k_asm); (case k7 => ktr_room); (case k8 => ktr_units); k_whole); intro r' tl' h' tk' F' N' l1 hp'; obtain ⟨t', hr', ht'⟩ := hp'; subst hr' ht'; (try simp only [List.cons_append, List.nil_append, List.append_nil] at N'); (try k_sweep); (try dsimp only); (try k_fold)))

theorem rgb_spec (prog : Program) (w : World) (g : Heap) (x y z : UInt64) (tx ty tz : Tok) :
    PC prog w 28 2 24 g [.float x tx, .float y ty, .float z tz] (fun r tl => ∃ d o, r = .ref d ∧ tl = [(d, o)] ∧ FTup o (rgbF x y z).1 (rgbF x y z).2.1 (rgbF x y z).2.2) := by
  intro mean mg mb dp un gd outer A₀ base s Q E hs HB B hdp hun hret
  walk_at "p_enter"
  k_steps
  all_goals (
    refine hret _ _ _ _ (Fr.keep (by k_asm)) (left_of (by k_asm)) ⟨_, _, rfl, rfl, ?_⟩
    (simp only [rgbF, feq, fle, c2, c6, c1, ch, cOT] at *; simp only [*, if_true, if_false, Bool.false_eq_true]; exact ⟨_, _, _, rfl⟩))

end Mine
end
section
-- LoopZ
open PySem PySem.W PyProof.Rows PySem.Calls PySem.Spec PyProof.V
set_option Elab.async false
set_option maxRecDepth 100000
set_option maxHeartbeats 4000000
namespace Mine
def Stop (P : Prop) : Prop := P
theorem Stop.out {P : Prop} (h : Stop P) : P := h
section
variable {prog : Program} {w : World} {A : Around} {E : Value → Shared → Prop} {s : Shared} {env : Env} {h₀ : Heap} {target : Expr} {body : List Stmt} {Q : Flow → Shared → Prop}

/-- a loop, whatever it runs over and whatever it stores into -/
def LoopG (prog : Program) (w : World) (A : Around) (env : Env) (target : Expr) (body : List Stmt) (Q : Flow → Shared → Prop) (E : Value → Shared → Prop) (it : Value) (s₂ : Shared) : Prop :=
  ∃ (Inv : Nat → Shared → Prop) (n : Nat), Inv n s₂ ∧ ∀ n s, Inv n s → wpAny (model prog w) A (pyNext it) (fun r s₁ => match r with
    | none => Q .next s₁
    | some v => wpAny (model prog w) A (letOwnedTupleGo target it v) (fun _ s₁' => wpAny (model prog w) A (assign target env v) (fun _ s₂ => wpAny (model prog w) A (execs body env) (fun f s₃ => match f with
            | .next | .cont => ∃ m, m < n ∧ Inv m s₃
            | .brk => Q .next s₃
            | .ret v => Q (.ret v) s₃) E s₂) E s₁') E s₁) E s
theorem For_any {iter : Expr} {pos : Pos} (h : wpAny (model prog w) A (eval iter env) (fun xv s₁ => wpAny (model prog w) A (pyIter xv) (fun it s₂ => LoopG prog w A env target body Q E it s₂) E s₁) E s)
    (hs : ∀ x, foldedSetIterable iter env x = pure x := by intro _; rfl) (hE : PassesOwn (model prog w) A env E := by passes_own) :
    wpAny (model prog w) A (exec (.For target iter body [] pos) env) Q E s := by
  refine wpAny_For (wpAny_mono h (fun xv s₁ h₁ => wpAny_mono h₁ (fun it s₂ h₂ => ?_) fun _ _ e => e) fun _ _ e => e) hs
  obtain ⟨Inv, n, h0, step⟩ := h₂
  refine codeAny_forLoop_any (R := fun r s' => match r with | .ok f => Q f s' | .error e => cameBackBy (model prog w) A env E e s') Inv (fun n s hI => ?_) n h0
  refine wpAny_mono (wpAny_passesOwn hE (step n s hI)) (fun r s₁ h₁ => ?_) fun _ _ e => e
  cases r with
  | none => exact wpAny_execs_nil h₁
  | some v =>
    refine wpAny_mono (wpAny_passesOwn hE h₁) (fun _ s₁' h₁' => ?_) fun _ _ e => e
    refine wpAny_mono (wpAny_passesOwn hE h₁') (fun _ s₂ h₂ => ?_) fun _ _ e => e
    refine wpAny_mono (wpAny_passesOwn hE h₂) (fun f s₃ h₃ => ?_) fun _ _ e => e
    cases f <;> exact h₃

def GEnd (h₀ : Heap) (L : Addr) (stored : List Str) (m₀ : Str → Option Value) (I : Addr) (oI : Obj) (Jn : (Str → Option Value) → List (Addr × Obj) → Prop) (s₁ s₂ : Shared) : Prop :=
  ∃ h' tk m' news', s₂ = { s₁ with heap := h', toks := tk } ∧ Fr h₀ L h' m' ∧ News h₀ L h' ((I, oI) :: news') ∧ (∀ p ∈ news', p.1 ≠ I) ∧ (∀ y, stored.contains y = false → m' y = m₀ y) ∧ Jn m' news'
def GPost (h₀ : Heap) (L : Addr) (stored : List Str) (m₀ : Str → Option Value) (I : Addr) (oI : Obj) (Jn : (Str → Option Value) → List (Addr × Obj) → Prop) (s₁ : Shared) (Q : Flow → Shared → Prop) (f : Flow) (s₂ : Shared) : Prop :=
  match f with
  | .ret v => Q (.ret v) s₂
  | .brk => Q .next s₂
  | _ => GEnd h₀ L stored m₀ I oI Jn s₁ s₂
theorem GEnd.intro {L I : Addr} {oI : Obj} {stored : List Str} {m₀ m' : Str → Option Value} {Jn : (Str → Option Value) → List (Addr × Obj) → Prop} {s₁ : Shared} {h' : Heap} {tk : Nat} {all : List (Addr × Obj)} (news' : List (Addr × Obj))
    (F : Fr h₀ L h' m') (N : News h₀ L h' all) (hI : (I, oI) ∈ all) (sub : ∀ p ∈ news', p ∈ all) (off : ∀ p ∈ news', p.1 ≠ I) (hm : ∀ y, stored.contains y = false → m' y = m₀ y) (hJ : Jn m' news') :
    GEnd h₀ L stored m₀ I oI Jn s₁ { s₁ with heap := h', toks := tk } :=
  ⟨h', tk, m', news', rfl, F, fun p hp => by
    rcases List.mem_cons.mp hp with rfl | hp
    · exact N _ hI
    · exact N _ (sub p hp), off, hm, hJ⟩

/-- a loop by an invariant over its frame and its ledger -/
theorem iter_gen {I : Addr} {fp : List Addr} {n : Nat} {P : Nat → Value → Prop} {St : Nat → Heap → Prop} {m₀ : Str → Option Value} {news : List (Addr × Obj)} (stored : List Str) (J : Nat → (Str → Option Value) → List (Addr × Obj) → Prop)
    (hgo : ∀ it v, letOwnedTupleGo target it v = pure ())
    (W : Walks prog w A I fp [I] n P St) (hfp : ∀ b ∈ fp, b = I ∨ ∃ o, h₀.get? b = some o) (hIo : ∀ i h, St i h → ∃ o, h.get? I = some o) (hI0 : h₀.get? I = none) (hIL : env.locals ≠ I)
    (st : St 0 s.heap) (F : Fr h₀ env.locals s.heap m₀) (N : News h₀ env.locals s.heap news) (off : ∀ p ∈ news, p.1 ≠ I) (j0 : J 0 m₀ news)
    (turn : ∀ i v (u : Str → Option Value) news₁ oI h tk, i < n → P i v → J i u news₁ → Fr h₀ env.locals h (fun y => if stored.contains y then u y else m₀ y) → News h₀ env.locals h ((I, oI) :: news₁) → (∀ p ∈ news₁, p.1 ≠ I) →
      wpAny (model prog w) A (assign target env v) (fun _ s' => wpAny (model prog w) A (execs body env) (GPost h₀ env.locals stored m₀ I oI (J (i + 1)) { s with heap := h, toks := tk } Q) E s') E { s with heap := h, toks := tk })
    (done : ∀ (u : Str → Option Value) news₁ h tk, J n u news₁ → Fr h₀ env.locals h (fun y => if stored.contains y then u y else m₀ y) → News h₀ env.locals h news₁ → Q .next { s with heap := h, toks := tk }) :
    LoopG prog w A env target body Q E (.ref I) s := by
  have eqm : ∀ m₁ : Str → Option Value, (∀ y, stored.contains y = false → m₁ y = m₀ y) → (fun y => if stored.contains y then m₁ y else m₀ y) = m₁ := fun m₁ hm => by
    funext y
    cases h2 : stored.contains y with
    | true => simp
    | false => simp [hm y h2]
  refine ⟨fun k s' => ∃ h' tk m' news' i, s' = { s with heap := h', toks := tk } ∧ St i h' ∧ Fr h₀ env.locals h' m' ∧ News h₀ env.locals h' news' ∧ (∀ p ∈ news', p.1 ≠ I) ∧ (∀ y, stored.contains y = false → m' y = m₀ y) ∧ J i m' news' ∧ i ≤ n ∧ k = n + 1 - i, n + 1,
    ⟨s.heap, s.toks, m₀, news, 0, rfl, st, F, N, off, fun _ _ => rfl, j0, Nat.zero_le _, rfl⟩, ?_⟩
  rintro k s' ⟨h', tk, m', news', i, rfl, hst', F', N', hoff, hm, hJ, hi, rfl⟩
  have next : ∀ h₁ : Heap, (∀ b o, b ∉ [I] → h'.get? b = some o → h₁.get? b = some o) → Fr h₀ env.locals h₁ m' ∧ News h₀ env.locals h₁ news' := fun h₁ hk₁ =>
    ⟨LCg.fr_but F' hk₁ hIL hI0, LCg.news_but N' hk₁ hoff⟩
  by_cases hlt : i < n
  · refine W.item i _ _ _ hlt hst' fun v h₁ tk₁ hP hst₁ hk₁ => ?_
    obtain ⟨F₁, N₁⟩ := next h₁ hk₁
    obtain ⟨oI, heI⟩ := hIo _ _ hst₁
    have N₂ : News h₀ env.locals h₁ ((I, oI) :: news') := fun p hp => by
      rcases List.mem_cons.mp hp with rfl | hp
      · exact ⟨heI, Ne.symm hIL, hI0⟩
      · exact N₁ _ hp
    rw [← eqm m' hm] at F₁
    dsimp only
    rw [hgo]
    refine wpAny_pure ?_
    refine wpAny_mono (turn i v m' news' oI h₁ tk₁ hlt hP hJ F₁ N₂ hoff) (fun _ s₂ h₂ => wpAny_mono h₂ (fun f s₃ h₃ => ?_) fun _ _ e => e) fun _ _ e => e
    have fin : GEnd h₀ env.locals stored m₀ I oI (J (i + 1)) { s with heap := h₁, toks := tk₁ } s₃ → ∃ m, m < n + 1 - i ∧ ∃ h' tk m' news' i, s₃ = { s with heap := h', toks := tk } ∧ St i h' ∧ Fr h₀ env.locals h' m' ∧ News h₀ env.locals h' news' ∧ (∀ p ∈ news', p.1 ≠ I) ∧ (∀ y, stored.contains y = false → m' y = m₀ y) ∧ J i m' news' ∧ i ≤ n ∧ m = n + 1 - i := by
      rintro ⟨hp₃, tk₃, m₃, news₃, rfl, F₃, N₃, off₃, hm₃, J₃⟩
      refine ⟨n + 1 - (i + 1), by omega, hp₃, tk₃, m₃, news₃, i + 1, rfl, W.frame _ _ _ hst₁ (fun b hb o e => ?_), F₃, fun p hp => N₃ p (List.mem_cons_of_mem _ hp), off₃, hm₃, J₃, hlt, rfl⟩
      rcases hfp b hb with h1 | ⟨o', h1⟩
      · rw [h1, heI] at e
        cases e
        rw [h1]
        exact (N₃ _ (List.mem_cons_self ..)).1
      · have := F₁.keep _ _ h1
        rw [e] at this
        cases this
        exact F₃.keep _ _ h1
    cases f with
    | ret v => exact h₃
    | brk => exact h₃
    | next => exact fin h₃
    | cont => exact fin h₃
  · have hin : i = n := by omega
    subst hin
    refine W.done _ _ _ hst' fun h₁ tk₁ hk₁ => ?_
    obtain ⟨F₁, N₁⟩ := next h₁ hk₁
    rw [← eqm m' hm] at F₁
    exact done m' news' h₁ tk₁ hJ F₁ N₁

theorem iter_range_gen {x : Str} {px : Pos} {r : Addr} {a₀ b₀ : Int} {t₀ u₀ v₀ : Tok} {n : Nat} {m₀ : Str → Option Value} {news : List (Addr × Obj)} (stored : List Str) (J : Nat → (Str → Option Value) → List (Addr × Obj) → Prop)
    (hh : A.handled = none) (hr : IsRange s.heap r a₀ b₀ 1 t₀ u₀ v₀) (hsmall : Builtin.Range.small a₀ b₀ 1 = true) (hn : Builtin.Range.rangeSize a₀ b₀ 1 = (n : Int)) (F : Fr h₀ env.locals s.heap m₀) (N : News h₀ env.locals s.heap news) (j0 : J 0 m₀ news)
    (turn : ∀ I i t (u : Str → Option Value) news₁ oI h tk, i < n → J i u news₁ → Fr h₀ env.locals h (fun y => if stored.contains y then u y else m₀ y) → News h₀ env.locals h ((I, oI) :: news₁) → (∀ p ∈ news₁, p.1 ≠ I) →
      wpAny (model prog w) A (storeName env x (.int (a₀ + (i : Int)) t)) (fun _ s' => wpAny (model prog w) A (execs body env) (GPost h₀ env.locals stored m₀ I oI (J (i + 1)) { s with heap := h, toks := tk } Q) E s') E { s with heap := h, toks := tk })
    (done : ∀ (u : Str → Option Value) news₁ h tk, J n u news₁ → Fr h₀ env.locals h (fun y => if stored.contains y then u y else m₀ y) → News h₀ env.locals h news₁ → Q .next { s with heap := h, toks := tk }) :
    wpAny (model prog w) A (pyIter (.ref r)) (fun it s₂ => LoopG prog w A env (.Name x px) body Q E it s₂) E s := by
  refine wpAny_pyIter_range hr hsmall ?_
  refine iter_gen stored J (fun _ _ => rfl) (LCg.range_walks hh a₀ n) (fun b hb => .inl (List.mem_singleton.mp hb)) (fun i h st => ⟨_, st⟩) (next_is_new F) (Nat.ne_of_lt F.ns.lt)
    (by show IsRangeIter _ _ _ _ _; rw [hn]; simpa using Heap.get?_push_size _ rfl) (F.push _) (fun p hp => ⟨Heap.get?_push_of_some _ (N p hp).1, (N p hp).2⟩) (fun p hp => Nat.ne_of_lt (Heap.lt_size (N p hp).1)) j0
    (fun i v u news₁ oI h tk hi hP hJ F₁ N₁ ho => ?_) (fun u news₁ h tk => done u news₁ h tk)
  obtain ⟨t, rfl⟩ := hP
  exact wpAny_assign_Name (turn _ i t u news₁ oI h tk hi hJ F₁ N₁ ho)
end
end Mine
end
section
-- RuleZ
open PySem PySem.W PyProof.Rows PySem.Calls PySem.Spec
set_option Elab.async false
set_option maxRecDepth 100000
set_option maxHeartbeats 8000000
namespace Mine
theorem anew_RuleZ : True ∧ True := by
  k_with_none
  first | (walk1; done) | exact ⟨trivial, trivial⟩
theorem fill_Rule : (PySem.Challenge.rw_zn0017_01, hd.heap_39) = (PySem.Challenge.rw_zn0017_01, hd.heap_39) := by
  k_fill
  rfl
local macro_rules | `(tactic| walk_at "exec For Name Call cons nil") => `(tactic| (k_here; (with_unfolding_all refine' For_any ?_); k_whole))
local macro_rules | `(tactic| walk_at "pyIter ref") => `(tactic| ((with_reducible show wpAny _ _ (pyIter (Value.ref _)) (fun it s₂ => LoopG _ _ _ _ _ _ _ _ it s₂) _ _); refine Stop.out ?_))
local macro_rules | `(tactic| k_all) => `(tactic| assumption)
local macro_rules | `(tactic| walk_at "exec Assign cons ListComp") => `(tactic| k_extra "stop comp")
local macro_rules | `(tactic| walk_at "exec If") => `(tactic| k_extra "stop if")
local macro_rules | `(tactic| walk_at "subscriptTail Name Slice ref ref") => `(tactic| k_extra "slice")
local macro_rules | `(tactic| walk_at "exec Expr") => `(tactic| k_extra "stop expr")
local macro_rules | `(tactic| walk_at "compareOp NotEq ref ref") => `(tactic| k_extra "cmp")
local macro_rules | `(tactic| walk_at "call builtin:list.append") => `(tactic| k_extra "append")
local macro_rules | `(tactic| walk_at "call builtin:len") => `(tactic| k_extra "len")
theorem allLt_mem {d : Addr} : ∀ {l : List (Addr × Obj)}, AllLt d l → ∀ p ∈ l, p.1 < d
  | [], _, _, h => nomatch h
  | _ :: _, x, p, h => by
    rcases List.mem_cons.mp h with rfl | h
    · exact x.1
    · exact allLt_mem x.2 p h
def T4 (o : Obj) (a b c d : Int) : Prop := ∃ t1 t2 t3 t4, o = { cls := Value.type "tuple", data := Data.seq [Value.int a t1, Value.int b t2, Value.int c t3, Value.int d t4].toArray }
def wetB (hs : List Int) (k : Nat) (L : Int) : Bool := (hs.take k).any (fun y => decide (L ≤ y)) && (hs.drop (k+1)).any (fun y => decide (L ≤ y))
theorem neS {l : List Str} {y k : Str} (hy : l.contains y = false) (hk : l.contains k = true) : y ≠ k := fun e => by subst e; rw [hk] at hy; cases hy
theorem neT {l : List Str} {y : Str} (hy : l.contains y = false) : ¬ (l.contains y = true) := by rw [hy]; exact Bool.false_ne_true
theorem range_filter (f : Int → Bool) (x : Int) (j : Nat) : ((List.range (j + 1)).map fun (q : Nat) => x + 1 + (q : Int)).filter f = ((List.range j).map fun (q : Nat) => x + 1 + (q : Int)).filter f ++ (if f (x + 1 + (j : Int)) then [x + 1 + (j : Int)] else []) := by
  rw [List.range_succ, List.map_append, List.filter_append]
  congr 1
  simp only [List.map_cons, List.map_nil, List.filter_cons, List.filter_nil]
theorem zero_nat (i : Nat) : (0 + (i : Int)).toNat = i := by omega
theorem one_nat (i : Nat) : (0 + (i : Int) + 1).toNat = i + 1 := by omega
theorem filter_any (l : List Int) (y : Int) : (l.filter (fun a => decide (y ≤ a)) = []) ↔ l.any (fun a => decide (y ≤ a)) = false := by
  rw [List.filter_eq_nil_iff, List.any_eq_false]
theorem wet_none1 {hs : List Int} {i : Nat} {y : Int} (c : decide ((hs.take (0 + (i : Int)).toNat).filter (fun a => decide (y ≤ a)) = []) = true) : wetB hs i y = false := by
  rw [zero_nat] at c
  unfold wetB
  rw [(filter_any _ _).mp (of_decide_eq_true c), Bool.false_and]
theorem wet_none2 {hs : List Int} {i : Nat} {y : Int} (c : decide ((hs.drop (0 + (i : Int) + 1).toNat).filter (fun a => decide (y ≤ a)) = []) = true) : wetB hs i y = false := by
  rw [one_nat] at c
  unfold wetB
  rw [(filter_any _ _).mp (of_decide_eq_true c), Bool.and_false]
theorem wet_some {hs : List Int} {i : Nat} {y : Int} (c : decide ((hs.take (0 + (i : Int)).toNat).filter (fun a => decide (y ≤ a)) = []) = false) (d : decide ((hs.drop (0 + (i : Int) + 1).toNat).filter (fun a => decide (y ≤ a)) = []) = false) : wetB hs i y = true := by
  rw [zero_nat] at c
  rw [one_nat] at d
  have c' := of_decide_eq_false c
  have d' := of_decide_eq_false d
  rw [filter_any, Bool.not_eq_false] at c' d'
  unfold wetB
  rw [c', d']
  rfl
theorem News.sub {h₀ h : Heap} {L : Addr} {news tl : List (Addr × Obj)} (N : News h₀ L h news) (hs : ∀ p ∈ tl, p ∈ news) : News h₀ L h tl := fun p hp => N p (hs p hp)
def IsMx (M : Int) (l : List Int) : Prop := M ∈ l ∧ ∀ a ∈ l, a ≤ M
def wets (hs : List Int) (j : Nat) : List Int := ((List.range (7 - hs.getD j 0).toNat).map fun (q : Nat) => hs.getD j 0 + 1 + (q : Int)).filter (wetB hs j)
def DueAt (hs : List Int) (j : Nat) (o : Obj) : Prop := ∃ a b, IsMx a (hs.take (j + 1)) ∧ IsMx b (hs.drop j) ∧ T4 o a (hs.getD j 0) b ((wets hs j).length : Int)
def Due (hs : List Int) (i : Nat) (rs : List Value) (tups : List (Addr × Obj)) : Prop := rs.length = i ∧ ∀ j, j < i → ∃ a o, rs[j]? = some (.ref a) ∧ (a, o) ∈ tups ∧ DueAt hs j o
theorem Due.zero (hs : List Int) : Due hs 0 [] [] := ⟨rfl, fun _ h => absurd h (Nat.not_lt_zero _)⟩
theorem Due.succ {hs : List Int} {i : Nat} {rs : List Value} {tups : List (Addr × Obj)} {T : Addr} {o : Obj} (d : Due hs i rs tups) (h : DueAt hs i o) : Due hs (i + 1) (rs ++ [.ref T]) ((T, o) :: tups) := by
  obtain ⟨hl, hd⟩ := d
  refine ⟨by rw [List.length_append, hl]; rfl, fun j hj => ?_⟩
  by_cases e : j = i
  · subst e
    exact ⟨T, o, by rw [← hl]; simp, List.mem_cons_self, h⟩
  · obtain ⟨a, o', e1, e2, e3⟩ := hd j (by omega)
    exact ⟨a, o', by rw [List.getElem?_append_left (by omega)]; exact e1, List.mem_cons_of_mem _ e2, e3⟩
theorem len_K {prog : Program} {w : World} {A : Around} {E : Value → Shared → Prop} {s : Shared} {Q : Value → Shared → Prop} {h₀ : Heap} {L l : Addr} {its : Array Value} {n : Nat} {news : List (Addr × Obj)} (N : News h₀ L s.heap news) (hm : (l, W.listOf its n) ∈ news) (hz : its.size ≤ 1000)
    (h : Q (.int its.size (s.toks + 1)) { s with toks := s.toks + 1 + 1 }) : wpAny (model prog w) A (call (.builtin "len") [.ref l]) Q E s :=
  len_list (News.isList N hm) (by omega) h
theorem neC {l l' : List Str} {y : Str} (hy : l.contains y = false) (hs : l'.all (fun x => l.contains x) = true) : ¬ (l'.contains y = true) := fun e => by
  have := List.all_eq_true.mp hs y (List.contains_iff_mem.mp e)
  rw [hy] at this; cases this
theorem rule_spec (prog : Program) (w : World) (g : Heap) (l : Addr) (vs : List Value) (hs : List Int) (hl : g.IsList l vs.toArray) (hi : IntsAre vs hs) (h7 : hs.length = 7) (hb : ∀ x ∈ hs, 0 ≤ x ∧ x < 8):
    PC prog w 101 3 200 g [.ref l] (fun r tl => ∃ D rs n tups, r = .ref D ∧ tl = (D, W.listOf rs.toArray n) :: tups ∧ Due hs 7 rs tups) := by
  intro mean mg mb dp un gd outer A₀ base s Q E hs' HB B hdp hun hret
  walk_at "p_enterC"
  k_steps
  rename Fr _ _ _ _ => F1
  rename News _ _ _ [(_, _), (_, _)] => N1
  rename IsRange _ _ _ _ _ _ _ _ => R1
  rename_i L hx0 tk0 oc dc D hx1 hD hx2 F0 N0 h3 tk2 t1 u1 v1 keep3
  refine iter_range_gen (n := 7) [Str.ofString "k", Str.ofString "levels", Str.ofString "ahead", Str.ofString "behind"]
    (fun i u news => ∃ (rs : List Value) (tups : List (Addr × Obj)) (n : Nat) (oc : Obj) (c : Option Value), news = (D, W.listOf rs.toArray n) :: (@HAdd.hAdd Nat Nat Nat instHAdd L 1, oc) :: tups ∧ oc.data = .cell c ∧ Due hs i rs tups ∧ (∀ p ∈ tups, p.1 ≠ D) ∧ ∀ p ∈ tups, @Ne Nat p.1 (@HAdd.hAdd Nat Nat Nat instHAdd L 1))
    rfl R1 (by decide) (by decide) F1 N1 ⟨[], [], 0, oc, _, rfl, dc, Due.zero hs, List.forall_mem_nil _, List.forall_mem_nil _⟩ ?_ ?_
  · clear F1 N1 R1 F0 N0 keep3 dc
    rintro I i t u news₁ oI h tk hi7 ⟨rs, tups, n, oc, c, rfl, dc, hrs, hoD, hoL⟩ F2 N2 off0
    have offD : @Ne Nat D I := off0 _ List.mem_cons_self
    have offL : @Ne Nat (@HAdd.hAdd Nat Nat Nat instHAdd L 1) I := off0 _ (List.mem_cons_of_mem _ List.mem_cons_self)
    have offT : ∀ p ∈ tups, p.1 ≠ I := fun p hp => off0 p (List.mem_cons_of_mem _ (List.mem_cons_of_mem _ hp))
    have hD' : @LT.lt Nat _ (@HAdd.hAdd Nat Nat Nat instHAdd L 1) D := hD
    k_steps
    rename_i lv _ hlv _ _ _ _ h4 tk4 t4 u4 v4 R3 F3 N3 keep4
    clear keep4
    have hx : 0 ≤ hs.getD (0 + (i : Int)).toNat 0 ∧ hs.getD (0 + (i : Int)).toNat 0 < 8 := by
      have : (0 + (i : Int)).toNat < hs.length := by omega
      rw [List.getD_eq_getElem?_getD, List.getElem?_eq_getElem this, Option.getD_some]
      exact hb _ (List.getElem_mem _)
    generalize hxe : hs.getD (0 + (i : Int)).toNat 0 = x at R3 hx ⊢
    generalize hrest : (I, oI) :: (D, W.listOf rs.toArray n) :: tups = rest
    have hr1 : ∀ p ∈ rest, @Ne Nat p.1 (@HAdd.hAdd Nat Nat Nat instHAdd L 1) := by
      subst hrest
      intro p hp
      rcases List.mem_cons.mp hp with rfl | hp
      · exact fun e => offL e.symm
      · rcases List.mem_cons.mp hp with rfl | hp
        · exact Nat.ne_of_gt hD
        · exact hoL p hp
    have hr2 : ∀ p ∈ rest, p.1 ≠ lv := fun p hp => by
      subst hrest
      rcases List.mem_cons.mp hp with rfl | hp
      · exact Nat.ne_of_lt hlv.1
      · rcases List.mem_cons.mp hp with rfl | hp
        · exact Nat.ne_of_lt hlv.2.1
        · exact Nat.ne_of_lt (allLt_mem hlv.2.2.2 p hp)
    have N4 : News g L h4 ((lv, W.listOf #[] 0) :: (@HAdd.hAdd Nat Nat Nat instHAdd L 1, oc) :: rest) := fun p hp => N3 p (by
      subst hrest
      simp only [List.mem_cons] at hp ⊢
      rcases hp with h | h | h | h | h
      · exact .inl h
      · exact .inr (.inr (.inr (.inl h)))
      · exact .inr (.inl h)
      · exact .inr (.inr (.inl h))
      · exact .inr (.inr (.inr (.inr h))))
    have hLl := hlv.2.2.1
    clear N3 hlv N2 F2
    refine iter_range_gen (n := (7 - x).toNat) [Str.ofString "ahead", Str.ofString "behind"]
      (fun j u news => ∃ (ls : List Value) (m : Nat) (oc : Obj) (c : Option Value), news = (lv, W.listOf ls.toArray m) :: (@HAdd.hAdd Nat Nat Nat instHAdd L 1, oc) :: rest ∧ oc.data = .cell c ∧
        IntsAre ls (((List.range j).map fun (q : Nat) => x + 1 + (q : Int)).filter (wetB hs i)))
      rfl R3 (small_one (by omega) (by omega) (by omega) (by omega)) (by rw [rangeSize_nat]; omega) F3 N4 ⟨[], 0, oc, _, rfl, dc, .nil⟩ ?_ ?_
    · clear F3 N4 R3 dc
      rintro I2 j t2 u2 news₁ oI2 h tk hj ⟨ls, m, oc, c, rfl, dc, hls⟩ F2 N2 off
      have off1 : @Ne Nat lv I2 := off _ List.mem_cons_self
      have off2 : @Ne Nat (@HAdd.hAdd Nat Nat Nat instHAdd L 1) I2 := off _ (List.mem_cons_of_mem _ List.mem_cons_self)
      replace F2 : Fr g L h _ := F2
      replace N2 : News g L h _ := N2
      k_with "stop comp" => ((with_reducible show wpAny _ _ (exec (Stmt.Assign [Expr.Name (PySem.Str.ofString "behind") _] _ _) _) _ _ _); refine Stop.out ?_)
      k_with "stop if" => (refine Stop.out ?_)
      k_steps
      all_goals (try k_data)
      k_with_none
      k_with "stop if" => (refine Stop.out ?_)
      k_with "slice" => (k_dflt (refine' kmk_slice_ints ?wF ?wN (Fr.lst (by k_asm) hl) (IsPart.int _ _) IsPart.none hi (kmk_from hi ?wx) (List.length_drop ..) ?_ ?ws ?wt ?wz; (case wF => k_asm); (case wN => k_asm); (case wx => omega); (case ws => with_unfolding_all rfl); (case wt => kmk_pure); (case wz => (rw [kmk_size_eq hi, sizeLine_eq]; omega))); intro D' ws' h' F' N' l1 hI' hC' hL'; (try k_lt l1); (try k_sweep))
      rename_i h7' o7 F7 N7 d7 sl sv _ F6 N6 I6 c6 c7 l7 aD ays h8 tk8 F8 N5 g5 l5 ca5 an N8 I8
      replace F8 : Fr g L h8 _ := F8
      have N9 : News g L h8 ((aD, { cls := Value.type "list", data := Data.seq ays.toArray an }) :: (I2, oI2) :: (lv, W.listOf ls.toArray m) :: (@HAdd.hAdd Nat Nat Nat instHAdd L 1, o7) :: rest) := fun p hp => N8 p (by
        rcases List.mem_cons.mp hp with h | h
        · exact List.mem_cons.mpr (.inl h)
        · exact List.mem_cons_of_mem _ (List.mem_cons_of_mem _ h))
      clear N8 l7 N7 F7 F6 N6 I6 c6 c7 N5 g5 l5 ca5
      unfold Stop
      rw [List.map_id' _] at I8
      k_steps
      all_goals (try k_data)
      k_with_none
      k_with "stop expr" => (refine Stop.out ?_)
      rename_i F6 N6 bD bys h9 tk9 F9 N5 g5 l5 ca5 bn N8 J8
      replace F9 : Fr g L h9 _ := F9
      have N10 : News g L h9 ((bD, { cls := Value.type "list", data := Data.seq bys.toArray bn }) :: (aD, { cls := Value.type "list", data := Data.seq ays.toArray an }) :: (I2, oI2) :: (lv, W.listOf ls.toArray m) :: (@HAdd.hAdd Nat Nat Nat instHAdd L 1, o7) :: rest) := fun p hp => N8 p (by
        rcases List.mem_cons.mp hp with h | h
        · exact List.mem_cons.mpr (.inl h)
        · exact List.mem_cons_of_mem _ (List.mem_cons_of_mem _ h))
      clear N8 F6 N6 N5 g5 l5 ca5 hI' hC' hL' l1 N9 F8
      unfold Stop
      rw [List.map_id' _] at J8
      have off3 : ∀ p ∈ (lv, W.listOf ls.toArray m) :: (@HAdd.hAdd Nat Nat Nat instHAdd L 1, o7) :: rest, p.1 ≠ I2 := fun p hp => by
        rcases List.mem_cons.mp hp with rfl | hp
        · exact off1
        · rcases List.mem_cons.mp hp with rfl | hp
          · exact off2
          · exact off p (List.mem_cons_of_mem _ (List.mem_cons_of_mem _ hp))
      k_with "cmp" => (refine' ke_ne_ints (ys := []) (ms := []) (News.isList (by k_asm) (by k_mem)) (News.isList (by k_asm) (by k_mem)) ?xi .nil ?xu ?_; (case xi => first | exact I8 | exact J8); (case xu => ktr_units))
      k_steps
      k_with_none
      all_goals rename Fr _ _ _ _ => F11
      all_goals rename News _ _ _ _ => N11
      · rename decide (_ = _) = true => c1
        refine GEnd.intro ((lv, W.listOf ls.toArray m) :: (@HAdd.hAdd Nat Nat Nat instHAdd L 1, o7) :: rest) F11 N11 (by k_mem) (fun p hp => ?_) off3 (fun y hy => by rw [if_neg (neS hy rfl), if_neg (neS hy rfl), if_neg (neT hy)]) ⟨ls, m, o7, _, rfl, d7, ?_⟩
        · exact List.mem_cons_of_mem _ (List.mem_cons_of_mem _ (List.mem_cons_of_mem _ (List.mem_cons_of_mem _ hp)))
        · rw [range_filter, wet_none1 c1]; simpa using hls
      · rename decide (_ = _) = true => c1
        refine GEnd.intro ((lv, W.listOf ls.toArray m) :: (@HAdd.hAdd Nat Nat Nat instHAdd L 1, o7) :: rest) F11 N11 (by k_mem) (fun p hp => ?_) off3 (fun y hy => by rw [if_neg (neS hy rfl), if_neg (neS hy rfl), if_neg (neT hy)]) ⟨ls, m, o7, _, rfl, d7, ?_⟩
        · exact List.mem_cons_of_mem _ (List.mem_cons_of_mem _ (List.mem_cons_of_mem _ (List.mem_cons_of_mem _ (List.mem_cons_of_mem _ hp))))
        · rw [range_filter, wet_none2 c1]; simpa using hls
      · unfold Stop
        rename_i h12 _ _ b1 _ _ _ b2
        have N12 : News g L _ ((I2, oI2) :: (lv, W.listOf ls.toArray m) :: (@HAdd.hAdd Nat Nat Nat instHAdd L 1, o7) :: rest) := fun p hp => N11 p (List.mem_cons_of_mem _ (List.mem_cons_of_mem _ (List.mem_cons_of_mem _ (List.mem_cons_of_mem _ hp))))
        clear N11
        have hsz : ls.toArray.size ≤ sizeLine := by
          rw [List.size_toArray, hls.length, sizeLine_eq]
          refine Nat.le_trans (List.length_filter_le _ _) ?_
          rw [List.length_map, List.length_range]
          omega
        k_with "append" => (k_dflt (refine' append_K ?wF ?wN ?wU ?_ hsz; (case wF => k_asm); (case wN => k_asm); (case wU => k_upd); k_whole); intro h' F' N')
        k_steps
        k_with_none
        rename Fr _ _ _ _ => F13
        rename News _ _ _ _ => N13
        rw [List.push_toArray] at N13
        refine GEnd.intro ((lv, W.listOf (ls ++ [Value.int (x + 1 + (j : Int)) t2]).toArray (m + 1)) :: (@HAdd.hAdd Nat Nat Nat instHAdd L 1, o7) :: rest) F13 N13 (by k_mem) (fun p hp => List.mem_cons_of_mem _ hp) ?_ (fun y hy => by rw [if_neg (neS hy rfl), if_neg (neS hy rfl), if_neg (neT hy)]) ⟨_, _, o7, _, rfl, d7, ?_⟩
        · intro p hp
          rcases List.mem_cons.mp hp with rfl | hp
          · exact off1
          · exact off3 p (List.mem_cons_of_mem _ hp)
        · rw [range_filter, if_pos (wet_some b1 b2)]
          exact hls.append (.cons _ _ .nil)
    · intro u2 news₁ h tk ⟨ls, m, oc, c, e, dc, hls⟩ F5 N5
      subst e
      clear F3 N4 R3
      subst hrest
      replace F5 : Fr g L h _ := F5
      replace N5 : News g L h _ := N5
      k_with "slice" => (k_dflt (refine' kmk_slice_ints ?wF ?wN (Fr.lst (by k_asm) hl) (IsPart.int _ _) IsPart.none hi (kmk_from hi ?wx) (List.length_drop ..) ?_ ?ws ?wt ?wz; (case wF => k_asm); (case wN => k_asm); (case wx => omega); (case ws => with_unfolding_all rfl); (case wt => kmk_pure); (case wz => (rw [kmk_size_eq hi, sizeLine_eq]; omega))); intro D' ws' h' F' N' l1 hI' hC' hL'; (try k_lt l1); (try k_sweep))
      k_with "slice" => (k_dflt (refine' kmk_slice_ints ?wF ?wN (Fr.lst (by k_asm) hl) IsPart.none (IsPart.int _ _) hi (kmk_upto hi ?wx) (List.length_take ..) ?_ ?ws ?wt ?wz; (case wF => k_asm); (case wN => k_asm); (case wx => omega); (case ws => with_unfolding_all rfl); (case wt => kmk_pure); (case wz => (rw [kmk_size_eq hi, sizeLine_eq]; omega))); intro D' ws' h' F' N' l1 hI' hC' hL'; (try k_lt l1); (try k_sweep))
      have hsz : ls.toArray.size ≤ 1000 := by
        rw [List.size_toArray, hls.length]
        refine Nat.le_trans (List.length_filter_le _ _) ?_
        rw [List.length_map, List.length_range]
        omega
      k_with "len" => (refine len_K (by k_asm) (by k_mem) hsz ?_)
      k_with "append" => (refine Stop.out ?_)
      k_steps
      k_with_none
      unfold Stop
      rename Fr _ _ _ _ => F6
      rename News _ _ _ _ => N6
      rename_i s1 w1 g1 hI1 hC1 hL1 l11 g2 M1 t1' k1 ma1 mb1 t9 g3 M2 t2' k2 ma2 mb2 T g4 l2
      have hTD := l2.2.2.2.2.2.1
      have hTI := l2.2.2.2.2.1
      have hTL := l2.2.2.2.1
      have hTt := allLt_mem l2.2.2.2.2.2.2
      obtain ⟨to, hto, N7⟩ : ∃ to, T4 to M1 (hs.getD (0 + (i : Int)).toNat 0) M2 (ls.toArray.size : Int) ∧ News g L g4 ((T, to) :: (D', W.listOf ws'.toArray 0) :: (s1, W.listOf w1.toArray 0) :: (lv, W.listOf ls.toArray m) :: (@HAdd.hAdd Nat Nat Nat instHAdd L 1, oc) :: (I, oI) :: (D, W.listOf rs.toArray n) :: tups) := ⟨_, ⟨_, _, _, _, rfl⟩, N6⟩
      have N8 := Mine.News.sub N7 (tl := (T, to) :: (I, oI) :: (D, W.listOf rs.toArray n) :: (@HAdd.hAdd Nat Nat Nat instHAdd L 1, oc) :: tups) (fun p hp => by
        simp only [List.mem_cons] at hp ⊢
        rcases hp with h | h | h | h | h
        · exact .inl h
        · exact .inr (.inr (.inr (.inr (.inr (.inl h)))))
        · exact .inr (.inr (.inr (.inr (.inr (.inr (.inl h))))))
        · exact .inr (.inr (.inr (.inr (.inl h))))
        · exact .inr (.inr (.inr (.inr (.inr (.inr (.inr h)))))))
      clear N6 N7 l2 l11 l1 hI1 hC1 hL1 hI' hC' hL'
      have hsr : rs.toArray.size ≤ sizeLine := by
        rw [List.size_toArray, hrs.1, sizeLine_eq]
        omega
      k_with "append" => (k_dflt (refine' append_K ?wF ?wN ?wU ?_ hsr; (case wF => k_asm); (case wN => k_asm); (case wU => k_upd); k_whole); intro h' F' N')
      k_steps
      k_with_none
      rename Fr _ _ _ _ => F13
      rename News _ _ _ _ => N13
      rw [List.push_toArray] at N13
      refine GEnd.intro ((D, W.listOf (rs ++ [Value.ref T]).toArray (n + 1)) :: (@HAdd.hAdd Nat Nat Nat instHAdd L 1, oc) :: (T, to) :: tups) F13 N13 (by k_mem) (fun p hp => ?_) ?_ (fun y hy => by rw [if_neg (neC hy rfl), if_neg (neS hy rfl), if_neg (neS hy rfl), if_neg (neT hy)])
        ⟨_, _, _, oc, _, rfl, dc, hrs.succ ⟨M1, M2, ?_, ?_, ?_⟩, ?_, ?_⟩
      · simp only [List.mem_cons] at hp ⊢
        rcases hp with h | h | h | h
        · exact .inr (.inr (.inl h))
        · exact .inr (.inr (.inr (.inl h)))
        · exact .inl h
        · exact .inr (.inr (.inr (.inr h)))
      · intro p hp
        simp only [List.mem_cons] at hp
        rcases hp with rfl | rfl | rfl | hp
        · exact offD
        · exact offL
        · exact Nat.ne_of_gt hTI
        · exact offT p hp
      · rw [one_nat] at ma1 mb1
        exact ⟨ma1, mb1⟩
      · rw [zero_nat] at ma2 mb2
        exact ⟨ma2, mb2⟩
      · rw [zero_nat] at hxe hto
        rw [List.size_toArray, hls.length] at hto
        unfold wets
        rw [hxe] at hto ⊢
        exact hto
      · intro p hp
        rcases List.mem_cons.mp hp with rfl | hp
        · exact Nat.ne_of_gt hTD
        · exact hoD p hp
      · intro p hp
        rcases List.mem_cons.mp hp with rfl | hp
        · exact Nat.ne_of_gt hTL
        · exact hoL p hp
  · intro u news₁ h tk ⟨rs, tups, n, oc, c, e, dc, hrs, hoD, hoL⟩ F5 N5
    subst e
    clear F1 N1 R1 F0 N0
    replace F5 : Fr g L h _ := F5
    replace N5 : News g L h _ := N5
    k_steps
    exact hret _ ((D, W.listOf rs.toArray n) :: tups) _ _ F5.keep (left_sub N5 fun p hp => by
      rcases List.mem_cons.mp hp with rfl | hp
      · exact List.mem_cons_self
      · exact List.mem_cons_of_mem _ (List.mem_cons_of_mem _ hp)) ⟨D, rs, n, tups, rfl, rfl, hrs⟩

end Mine
end
section
-- SwapZ
open PySem PySem.W PyProof.Rows PySem.Calls PySem.Spec
set_option Elab.async false
set_option maxRecDepth 100000
set_option maxHeartbeats 8000000
namespace Mine
theorem anew_SwapZ : True ∧ True := by
  k_with_none
  first | (walk1; done) | exact ⟨trivial, trivial⟩
theorem fill_SwapZ : (PySem.Challenge.rw_zn0017_01, hd.heap_39) = (PySem.Challenge.rw_zn0017_01, hd.heap_39) := by
  k_fill
  rfl
theorem iter_range_step {prog : Program} {w : World} {A : Around} {E : Value → Shared → Prop} {s : Shared} {env : Env} {h₀ : Heap} {body : List Stmt} {Q : Flow → Shared → Prop} {x : Str} {px : Pos} {r : Addr} {a₀ b₀ c₀ : Int} {t₀ u₀ v₀ : Tok} {n : Nat} {m₀ : Str → Option Value} {news : List (Addr × Obj)} (stored : List Str) (J : Nat → (Str → Option Value) → List (Addr × Obj) → Prop)
    (hh : A.handled = none) (hr : IsRange s.heap r a₀ b₀ c₀ t₀ u₀ v₀) (hsmall : Builtin.Range.small a₀ b₀ c₀ = true) (hn : Builtin.Range.rangeSize a₀ b₀ c₀ = (n : Int)) (F : Fr h₀ env.locals s.heap m₀) (N : News h₀ env.locals s.heap news) (j0 : J 0 m₀ news)
    (turn : ∀ I i t (u : Str → Option Value) news₁ oI h tk, i < n → J i u news₁ → Fr h₀ env.locals h (fun y => if stored.contains y then u y else m₀ y) → News h₀ env.locals h ((I, oI) :: news₁) → (∀ p ∈ news₁, p.1 ≠ I) →
      wpAny (model prog w) A (storeName env x (.int (a₀ + (i : Int) * c₀) t)) (fun _ s' => wpAny (model prog w) A (execs body env) (GPost h₀ env.locals stored m₀ I oI (J (i + 1)) { s with heap := h, toks := tk } Q) E s') E { s with heap := h, toks := tk })
    (done : ∀ (u : Str → Option Value) news₁ h tk, J n u news₁ → Fr h₀ env.locals h (fun y => if stored.contains y then u y else m₀ y) → News h₀ env.locals h news₁ → Q .next { s with heap := h, toks := tk }) :
    wpAny (model prog w) A (pyIter (.ref r)) (fun it s₂ => LoopG prog w A env (.Name x px) body Q E it s₂) E s := by
  refine wpAny_pyIter_range hr hsmall ?_
  refine iter_gen stored J (fun _ _ => rfl) (Walks.range hh s.heap.objs.size a₀ c₀ n) (fun b hb => .inl (List.mem_singleton.mp hb)) (fun i h st => ⟨_, st⟩) (next_is_new F) (Nat.ne_of_lt F.ns.lt)
    (by show IsRangeIter _ _ _ _ _; rw [hn]; simpa using Heap.get?_push_size _ rfl) (F.push _) (fun p hp => ⟨Heap.get?_push_of_some _ (N p hp).1, (N p hp).2⟩) (fun p hp => Nat.ne_of_lt (Heap.lt_size (N p hp).1)) j0
    (fun i v u news₁ oI h tk hi hP hJ F₁ N₁ ho => ?_) (fun u news₁ h tk => done u news₁ h tk)
  obtain ⟨t, rfl⟩ := hP
  exact wpAny_assign_Name (turn _ i t u news₁ oI h tk hi hJ F₁ N₁ ho)
/-- the first j octets laid from the back -/
def laid (ks : List Int) (j : Nat) : List Int := List.replicate (ks.length - j) 0 ++ (ks.take j).reverse
theorem laid_zero (ks : List Int) : laid ks 0 = List.replicate ks.length 0 := by simp [laid]
theorem laid_all (ks : List Int) : laid ks ks.length = ks.reverse := by simp [laid]
theorem laid_succ {ks : List Int} {j : Nat} (h : j < ks.length) : (laid ks j).set (ks.length - 1 - j) (ks.getD j 0) = laid ks (j + 1) := by
  unfold laid
  have e : ks.length - j = (ks.length - 1 - j) + 1 := by omega
  have e2 : ks.length - (j + 1) = ks.length - 1 - j := by omega
  rw [e, e2, List.replicate_succ', List.append_assoc, List.set_append_right _ _ (by simp)]
  simp only [List.length_replicate, Nat.sub_self, List.singleton_append, List.set_cons_zero]
  rw [List.take_add_one, List.reverse_append, List.getElem?_eq_getElem h, List.getD_eq_getElem?_getD, List.getElem?_eq_getElem h]
  rfl
theorem ints_set {b : Array UInt8} {k : Nat} {x : Int} (h0 : 0 ≤ x) (h1 : x < 256) : KBw.bInts (b.setIfInBounds k x.toNat.toUInt8) = (KBw.bInts b).set k x := by
  unfold KBw.bInts
  rw [Array.toList_setIfInBounds, List.map_set]
  congr 1
  have h2 : (x.toNat.toUInt8).toNat = x.toNat := by
    first
      | (show (UInt8.ofNat x.toNat).toNat = x.toNat; rw [UInt8.toNat_ofNat']; omega)
      | (simp; omega)
  rw [h2]; omega
theorem ints_rep (n : Nat) : KBw.bInts (Array.replicate n 0) = List.replicate n 0 := by
  unfold KBw.bInts
  rw [Array.toList_replicate, List.map_replicate]; rfl
local macro_rules | `(tactic| walk_at "exec For Name Call cons nil") => `(tactic| (k_here; (with_unfolding_all refine' For_any ?_); k_whole))
local macro_rules | `(tactic| walk_at "pyIter ref") => `(tactic| ((with_reducible show wpAny _ _ (pyIter (Value.ref _)) (fun it s₂ => LoopG _ _ _ _ _ _ _ _ it s₂) _ _); refine Stop.out ?_))
local macro_rules | `(tactic| walk_at "call type:bytes") => `(tactic| k_extra "bytes")
theorem News.at {h₀ h : Heap} {L : Addr} {news : List (Addr × Obj)} (N : News h₀ L h news) {p : Addr × Obj} (hp : p ∈ news) : h.get? p.1 = some p.2 := (N p hp).1
local macro_rules | `(tactic| k_all) => `(tactic| assumption)
local macro_rules | `(tactic| walk_at "setItem ref int") => `(tactic| k_extra "set")
theorem swap_spec (prog : Program) (w : World) (g : Heap) (b : Array UInt8) (ks : List Int) (t u : Tok) (n : Nat) (hn : n = 7 ∨ n = 21) (hk : KBw.bInts b = ks) (hb : ks.length = n) :
    PCC prog w 91 3 200 g [.bytes b t, .int n u] (fun r tl => ∃ b' t', r = .bytes b' t' ∧ KBw.bInts b' = ks.reverse ∧ tl = []) := by
  intro mean mg mb dp un gd outer A₀ base s Q E hs' HB B hdp hun hret
  have h0 : 0 < n := by omega
  have h1 : n < 100 := by omega
  walk_at "p_enter0"
  refine wpC_execs_cons (wpC_Assign_Name (wpC_Call_Name rfl ?_))
  k_steps
  refine callWithC1 (P := fun _ => True) (fun h _ => looks_type h) (.of_any (bm_if_false rfl ?_))
  k_steps
  any_goals exact trivial
  rename Fr _ _ _ _ => F0
  rename News _ _ _ [] => N0
  refine ba_call_K F0 N0 (by omega) (by omega) fun D h2 F2 N2 _ offL => ?_
  clear F0 N0
  dsimp only
  k_steps
  refine .of_any ?_
  k_steps
  rename Fr _ _ _ _ => F0
  rename News _ _ _ _ => N0
  rename IsRange _ _ _ _ _ _ _ _ => R0
  rename Addr => L
  refine Stop.out ?_
  
  rw [hb] at R0
  refine iter_range_step (n := 1) [Str.ofString "i", Str.ofString "j"] (fun i u news => ∃ c, news = [(D, baObj c)] ∧ KBw.bInts c = laid ks (i * n))
    rfl R0 (by rcases hn with rfl | rfl <;> decide) (by rcases hn with rfl | rfl <;> decide) F0 N0 ⟨_, rfl, by rw [Nat.zero_mul, laid_zero, ints_rep, hb]⟩ ?_ ?_
  · clear N0 F0 R0
    rintro I i t u news₁ oI h tk hi7 ⟨c, rfl, hc⟩ F2 N2 off0
    obtain rfl : i = 0 := by omega
    have offD : @Ne Nat D I := off0 _ List.mem_cons_self
    
    replace F2 : Fr g _ h _ := F2
    replace N2 : News g _ h _ := N2
    k_steps
    rename Fr _ _ _ _ => F3
    rename News _ _ _ _ => N3
    rename IsRange _ _ _ _ _ _ _ _ => R3
    refine Stop.out ?_
    refine iter_range_gen (n := n) [Str.ofString "j"] (fun j u news => ∃ c, news = [(I, oI), (D, baObj c)] ∧ KBw.bInts c = laid ks j)
      rfl R3 (small_one (by omega) (by omega) (by omega) (by omega)) (by rw [rangeSize_nat]; omega) F3 N3 ⟨_, rfl, by rw [hc, Nat.zero_mul]⟩ ?_ ?_
    · clear N3 F3 R3 F2 N2 
      clear hc off0
      rintro I2 j t2 u2 news₁ oI2 h tk hj ⟨c, rfl, hc⟩ F2 N2 off2
      have offI : @Ne Nat I I2 := off2 _ List.mem_cons_self
      have offD2 : @Ne Nat D I2 := off2 _ (List.mem_cons_of_mem _ List.mem_cons_self)
      replace F2 : Fr g _ h _ := F2
      replace N2 : News g _ h _ := N2
      k_with "set" => (k_here; refine Stop.out ?_)
      k_steps
      k_with_none
      unfold Stop
      rename Fr _ _ _ _ => F4
      rename News _ _ _ _ => N4
      have hcz : c.size = n := by rw [← KBw.ints_length, hc]; simp [laid]; omega
      refine ba_set_K F4 N4 rfl (.tail (Ne.symm offD2) (.tail (Ne.symm offD) (.head (List.forall_mem_nil _)))) (by omega) (by omega) (by omega) (by assumption) (by assumption) fun h' F' N' => ?_
      k_steps
      rename Fr _ _ _ _ => F5
      rename News _ _ _ _ => N5
      refine GEnd.intro [(I, oI), (D, baObj _)] F5 N5 (by k_mem) (fun p hp => List.mem_cons_of_mem _ hp) ?_ (fun y hy => by rw [if_neg (neS hy rfl), if_neg (neT hy)]) ⟨_, rfl, ?_⟩
      · intro p hp
        simp only [List.mem_cons, List.not_mem_nil, or_false] at hp
        rcases hp with rfl | rfl
        · exact offI
        · exact offD2
      · have e1 : (0 + ((0 : Nat) : Int) * (n : Int) + (0 + (j : Int))).toNat = j := by omega
        have e2 : (0 + ((0 : Nat) : Int) * (n : Int) + (n : Int) - 1 - (0 + (j : Int))).toNat = ks.length - 1 - j := by omega
        rw [ints_set (by assumption) (by assumption), e1, e2, hc]
        exact laid_succ (by omega)
    · rintro u2 news₁ h tk ⟨c, rfl, hc⟩ F2 N2
      replace F2 : Fr g _ h _ := F2
      replace N2 : News g _ h _ := N2
      k_steps
      refine GEnd.intro [(D, baObj c)] F2 N2 (by k_mem) (fun p hp => List.mem_cons_of_mem _ hp) ?_ (fun y hy => by rw [if_neg (neC hy rfl), if_neg (neS hy rfl), if_neg (neT hy)]) ⟨_, rfl, by rw [hc, Nat.zero_add, Nat.one_mul]⟩
      intro p hp
      obtain rfl := List.mem_singleton.mp hp
      exact offD
  · rintro u news₁ h tk ⟨c, rfl, hc⟩ F2 N2
    replace F2 : Fr g _ h _ := F2
    replace N2 : News g _ h _ := N2
    have hcz : c.size = n := by rw [← KBw.ints_length, hc]; simp [laid]; omega
    k_with "bytes" => (k_here; (with_reducible show wpAny _ _ (call (Value.type "bytes") [Value.ref D]) _ _ _); k_dflt (refine' call_bytes_ba (News.at N2 List.mem_cons_self) (by omega) ?_); intro _ _)
    k_steps
    k_with_none
    exact hret _ [] _ _ F2.keep (fun _ h => nomatch h) ⟨_, _, rfl, by rw [hc, Nat.one_mul, ← hb, laid_all], rfl⟩

end Mine
end
section
-- HeightsZ
open PySem PySem.W PyProof.Rows PySem.Calls PySem.Spec
set_option Elab.async false
set_option maxRecDepth 100000
set_option maxHeartbeats 8000000
namespace Mine
theorem anew_HeightsZ : True ∧ True := by
  k_with_none
  first | (walk1; done) | exact ⟨trivial, trivial⟩
theorem fill_HeightsZ : (PySem.Challenge.rw_zn0017_01, hd.heap_39) = (PySem.Challenge.rw_zn0017_01, hd.heap_39) := by
  k_fill
  rfl
theorem pick_ints {vs : List Value} {ns : List Int} (hi : IntsAre vs ns) : ∀ l : List Nat, IntsAre (l.filterMap (vs.toArray[·]?)) (l.filterMap (ns[·]?))
  | [] => .nil
  | i :: r => by
    have hm := pick_ints hi r
    cases h : vs[i]? with
    | none =>
      have h2 : ns[i]? = none := by
        rw [List.getElem?_eq_none_iff] at h ⊢
        rw [← hi.length]; exact h
      simpa [h, h2] using hm
    | some v =>
      obtain ⟨n, t, rfl, hn⟩ := IntsAre.at hi i v h
      have hc : IntsAre (Value.int n t :: r.filterMap (vs.toArray[·]?)) (n :: r.filterMap (ns[·]?)) := .cons _ _ hm
      simpa [h, hn] using hc
def pickI (ns : List Int) (lo hi st : Option Int) : List Int := (sliceRange (sliceBounds lo hi st ns.length).1 (sliceBounds lo hi st ns.length).2.1 (sliceBounds lo hi st ns.length).2.2).filterMap (ns[·]?)
theorem slice3_ints {prog : Program} {w : World} {A : Around} {E : Value → Shared → Prop} {s : Shared} {h₀ : Heap} {L l : Addr} {m : Str → Option Value} {news : List (Addr × Obj)} {value slice : PySem.Expr} {vs : List Value} {ns : List Int} {vl vu vk : Value} {lo hi st : Option Int} {Q : Value → Shared → Prop} {ops : List Value}
    (F : Fr h₀ L s.heap m) (N : News h₀ L s.heap news) (hl : s.heap.IsList l vs.toArray) (pl : IsPart vl lo) (pu : IsPart vu hi) (pk : IsPart vk st) (h0 : st ≠ some 0) (hi' : IntsAre vs ns)
    (h : ∀ D ws h', Fr h₀ L h' m → News h₀ L h' ((D, W.listOf (List.toArray ws) 0) :: news) → (∀ p ∈ news, p.1 < D) → IntsAre ws (pickI ns lo hi st) → (pickI ns lo hi st).length ≤ ns.length → Q (.ref D) { s with heap := h' })
    (hs : subscripted slice false (.ref l) (.ref s.heap.objs.size) = operate ops (getItem (.ref l) (.ref s.heap.objs.size))) (ht : ∀ r, letTemporaryGo value (.ref l) r = pure ()) (hz : vs.toArray.size ≤ sizeLine) :
    wpAny (model prog w) A (subscriptTail value slice (.ref l) (.ref s.heap.objs.size)) Q E { s with heap := s.heap.push { cls := .type "slice", data := .fields #[vl, vu, vk] } } := by
  have hm : IntsAre (slicePick vs.toArray lo hi st).toList (pickI ns lo hi st) := by
    have := pick_ints hi' (sliceRange (sliceBounds lo hi st vs.toArray.size).1 (sliceBounds lo hi st vs.toArray.size).2.1 (sliceBounds lo hi st vs.toArray.size).2.2)
    unfold pickI slicePick
    rw [← hi'.length]
    exact this
  refine slice_list3 F N hl pl pu pk h0 (fun h' F' N' => h _ (slicePick vs.toArray lo hi st).toList h' F' ?_ (fun p hp => Nat.lt_succ_of_lt (Heap.lt_size (N p hp).1)) hm ?_) hs ht hz
  · rw [Array.toArray_toList]; exact N'
  · have q := slicePick_size_le vs.toArray lo hi st
    rw [← hm.length, ← hi'.length, Array.length_toList]
    simpa using q
local macro_rules | `(tactic| walk_at "subscriptTail Name Slice ref ref") => `(tactic| k_extra "slice")
theorem heights_spec (prog : Program) (w : World) (g : Heap) (l : Addr) (vs : List Value) (ks : List Int) (hl : g.IsList l vs.toArray) (hi : IntsAre vs ks) (hb : ks.length ≤ 63) :
    PC prog w 96 3 200 g [.ref l] (fun r tl => ∃ D vs hs n, r = .ref D ∧ tl = [(D, W.listOf (List.toArray vs) n)] ∧ IntsAre vs hs ∧ hs.length = 7 ∧ ∀ x ∈ hs, 0 ≤ x ∧ x < 8) := by
  intro mean mg mb dp un gd outer A₀ base s Q E hs' HB B hdp hun hret
  walk_at "p_enterC"
  k_with "slice" => (k_dflt (refine' slice3_ints ?wF ?wN (Fr.lst (by k_asm) hl) (IsPart.int _ _) (IsPart.int _ _) (IsPart.int _ _) (by decide) hi ?_ ?ws ?wt ?wz; (case wF => k_asm); (case wN => k_asm); (case ws => with_unfolding_all rfl); (case wt => kmk_pure); (case wz => (rw [kmk_size_eq hi, sizeLine_eq]; omega))); intro D' ws' h' F' N' l1 hI' hL'; (try k_lt l1); (try k_sweep))
  k_steps
  all_goals (try k_data)
  rename Fr _ _ _ _ => F1
  rename News _ _ _ (_ :: _) => N1
  rename IntsAre _ (List.map _ _) => I1
  have hlen := I1.length
  refine hret _ [(_, LCg.lst _)] _ _ F1.keep (left_sub N1 fun p hp => by
      obtain rfl := List.mem_singleton.mp hp
      exact List.mem_cons_self) ⟨_, _, _, _, rfl, rfl, I1, ?_, ?_⟩
  · simp [rangeKs]
  · intro x hx
    obtain ⟨k, hk, rfl⟩ := List.mem_map.mp hx
    have hk' : 0 ≤ k ∧ k < 7 := by
      simp only [rangeKs, List.mem_map, List.mem_range] at hk
      obtain ⟨a, ha, rfl⟩ := hk
      have : (7 - 0 : Int).toNat = 7 := rfl
      omega
    split
    · exact ⟨fmod_lo _ (by decide), fmod_hi _ (by decide)⟩
    · omega

end Mine
end
section
-- TopsZ
open PySem PySem.W PyProof.Rows PySem.Calls PySem.Spec
set_option Elab.async false
set_option maxRecDepth 100000
set_option maxHeartbeats 8000000
namespace Mine
theorem anew_TopsZ : True ∧ True := by
  k_with_none
  first | (walk1; done) | exact ⟨trivial, trivial⟩
theorem fill_TopsZ : (PySem.Challenge.rw_zn0017_01, hd.heap_39) = (PySem.Challenge.rw_zn0017_01, hd.heap_39) := by
  k_fill
  rfl
theorem iter_bytes_gen {prog : Program} {w : World} {A : Around} {E : Value → Shared → Prop} {s : Shared} {env : Env} {h₀ : Heap} {body : List Stmt} {Q : Flow → Shared → Prop} {x : Str} {px : Pos} {b : Array UInt8} {tb : Tok} {ks : List Int} {m₀ : Str → Option Value} {news : List (Addr × Obj)} (stored : List Str) (J : Nat → (Str → Option Value) → List (Addr × Obj) → Prop)
    (hk : KBw.bInts b = ks) (hh : A.handled = none) (F : Fr h₀ env.locals s.heap m₀) (N : News h₀ env.locals s.heap news) (j0 : J 0 m₀ news)
    (turn : ∀ I i k t (u : Str → Option Value) news₁ oI h tk, ks[i]? = some k → 0 ≤ k → k < 256 → J i u news₁ → Fr h₀ env.locals h (fun y => if stored.contains y then u y else m₀ y) → News h₀ env.locals h ((I, oI) :: news₁) → (∀ p ∈ news₁, p.1 ≠ I) →
      wpAny (model prog w) A (storeName env x (.int k t)) (fun _ s' => wpAny (model prog w) A (execs body env) (GPost h₀ env.locals stored m₀ I oI (J (i + 1)) { s with heap := h, toks := tk } Q) E s') E { s with heap := h, toks := tk })
    (done : ∀ (u : Str → Option Value) news₁ h tk, J ks.length u news₁ → Fr h₀ env.locals h (fun y => if stored.contains y then u y else m₀ y) → News h₀ env.locals h news₁ → Q .next { s with heap := h, toks := tk }) :
    wpAny (model prog w) A (pyIter (.bytes b tb)) (fun it s₂ => LoopG prog w A env (.Name x px) body Q E it s₂) E s := by
  subst hk
  refine KBw.pyIter_bytes ?_
  refine iter_gen stored J (fun _ _ => rfl) (KBw.walks hh s.heap.objs.size b tb) (fun b hb => .inl (List.mem_singleton.mp hb)) (fun i h st => ⟨_, st.choose_spec.1⟩) (next_is_new F) (Nat.ne_of_lt F.ns.lt)
    ⟨_, Heap.get?_push_size _ rfl, rfl, rfl⟩ (F.push _) (fun p hp => ⟨Heap.get?_push_of_some _ (N p hp).1, (N p hp).2⟩) (fun p hp => Nat.ne_of_lt (Heap.lt_size (N p hp).1)) j0
    (fun i v u news₁ oI h tk hi hP hJ F₁ N₁ ho => ?_) (fun u news₁ h tk hJ => done u news₁ h tk (by rw [KBw.ints_length]; exact hJ))
  obtain ⟨c, t, hc, rfl⟩ := hP
  have hm : (c.toNat : Int) ∈ KBw.bInts b := List.mem_of_getElem? (KBw.ints_get hc)
  exact wpAny_assign_Name (turn _ i _ t u news₁ oI h tk (KBw.ints_get hc) (KBw.ints_in hm).1 (KBw.ints_in hm).2 hJ F₁ N₁ ho)
theorem coll_spec (prog : Program) (w : World) (g : Heap) (a b : Str) (t u : Tok) :
    PC prog w 49 3 200 g [.str a t, .str b u] (fun r tl => ∃ t', r = .int (b2i (decide (b.cps.toList < a.cps.toList)) - b2i (decide (a.cps.toList < b.cps.toList))) t' ∧ tl = []) := by
  intro mean mg mb dp un gd outer A₀ base s Q E hs' HB B hdp hun hret
  walk_at "p_enter"
  k_steps
  all_goals (try k_data)
  rename Fr _ _ _ _ => F1
  exact hret _ [] _ _ F1.keep (fun _ h => nomatch h) ⟨_, rfl, rfl⟩
def xx (k : Int) : Str := Txt.mul (Str.ofString "x") k
theorem x_one : Str.ofString "x" = ⟨#[120]⟩ := by decide +kernel
theorem xx_list (k : Int) : (xx k).cps.toList = List.replicate k.toNat 120 := by unfold xx; rw [x_one]; exact mul_one_list 120 k
theorem xx_len (k : Int) : (xx k).length = k.toNat := by
  show (xx k).cps.size = _
  rw [← Array.length_toList, xx_list, List.length_replicate]
theorem xx_zero : xx 0 = Str.ofString "" := by decide +kernel
theorem rep_lt : ∀ m n : Nat, (List.replicate m 120 < List.replicate n 120) ↔ m < n
  | 0, 0 => by decide
  | 0, n + 1 => by simp [List.replicate_succ]
  | m + 1, 0 => by simp
  | m + 1, n + 1 => by
    rw [List.replicate_succ, List.replicate_succ, List.cons_lt_cons_iff, rep_lt m n]
    simp
theorem coll_xx (a b : Int) (ha : 0 ≤ a) (hb : 0 ≤ b) : b2i (decide ((xx b).cps.toList < (xx a).cps.toList)) - b2i (decide ((xx a).cps.toList < (xx b).cps.toList)) = (if b < a then 1 else if a < b then -1 else 0) := by
  have e1 : ((xx b).cps.toList < (xx a).cps.toList) ↔ b < a := by rw [xx_list, xx_list, rep_lt]; omega
  have e2 : ((xx a).cps.toList < (xx b).cps.toList) ↔ a < b := by rw [xx_list, xx_list, rep_lt]; omega
  rw [b2i_decide, b2i_decide]
  by_cases h1 : b < a
  · rw [if_pos (e1.mpr h1), if_neg (fun h => by have := e2.mp h; omega), if_pos h1]; rfl
  · rw [if_neg (fun h => h1 (e1.mp h)), if_neg h1]
    by_cases h2 : a < b
    · rw [if_pos (e2.mpr h2), if_pos h2]; rfl
    · rw [if_neg (fun h => h2 (e2.mp h)), if_neg h2]; rfl
theorem collx_spec (prog : Program) (w : World) (g : Heap) (a b : Int) (ha : 0 ≤ a) (hb : 0 ≤ b) (t u : Tok) :
    PC prog w 49 3 200 g [.str (xx a) t, .str (xx b) u] (fun r tl => ∃ t', r = .int (if b < a then 1 else if a < b then -1 else 0) t' ∧ tl = []) := by
  have := coll_spec prog w g (xx a) (xx b) t u
  rw [coll_xx a b ha hb] at this
  exact this
/-- the greatest of a list, 0 at least -/
def mxl (l : List Int) : Int := l.foldl max 0
theorem mxl_take {ks : List Int} {i : Nat} {k : Int} (h : ks[i]? = some k) : mxl (ks.take (i + 1)) = max (mxl (ks.take i)) k := by
  unfold mxl
  rw [List.take_add_one, h, List.foldl_append]
  rfl
theorem foldl_max_le : ∀ (l : List Int) (m : Int), m ≤ l.foldl max m
  | [], m => Int.le_refl _
  | x :: r, m => Int.le_trans (by omega) (foldl_max_le r (max m x))
theorem mxl_nonneg (l : List Int) : 0 ≤ mxl l := foldl_max_le l 0
theorem foldl_max_lt {c : Int} : ∀ (l : List Int) (m : Int), m < c → (∀ x ∈ l, x < c) → l.foldl max m < c
  | [], m, h, _ => h
  | x :: r, m, h, hx => foldl_max_lt r (max m x) (by have := hx x List.mem_cons_self; omega) fun y hy => hx y (List.mem_cons_of_mem _ hy)
theorem mxl_lt {l : List Int} {c : Int} (h0 : 0 < c) (h : ∀ x ∈ l, x < c) : mxl l < c := foldl_max_lt l 0 h0 h
theorem len_xx {prog : Program} {w : World} {A : Around} {E : Value → Shared → Prop} {s : Shared} {k : Int} {t : Tok} {Q : Value → Shared → Prop} (h0 : 0 ≤ k) (h1 : k < 1000) (h : ∀ t' n, Q (.int k t') { s with toks := n }) :
    wpAny (model prog w) A (call (.builtin "len") [.str (xx k) t]) Q E s := by
  have e : ((xx k).length : Int) = k := by rw [xx_len]; omega
  refine PyProof.Rows.len_str (by rw [e]; omega) ?_
  rw [e]
  exact h _ _
theorem Fr.carry {h₀ h : Heap} {L : Addr} {m : Str → Option Value} {k : Str} {v : Value} (F : Fr h₀ L h m) (e : m k = some v) : Fr h₀ L h (fun y => if y = k then some v else m y) := by
  have : (fun y => if y = k then some v else m y) = m := by
    funext y
    by_cases hy : y = k
    · subst hy; rw [if_pos rfl, e]
    · rw [if_neg hy]
  rw [this]; exact F
local macro_rules | `(tactic| walk_at "exec For Name Name cons nil") => `(tactic| (k_here; (with_unfolding_all refine' For_any ?_); k_whole))
local macro_rules | `(tactic| walk_at "pyIter bytes") => `(tactic| ((with_reducible show wpAny _ _ (pyIter (Value.bytes _ _)) (fun it s₂ => LoopG _ _ _ _ _ _ _ _ it s₂) _ _); refine Stop.out ?_))
local macro_rules | `(tactic| walk_at "call builtin:len") => `(tactic| k_extra "len")
local macro_rules | `(tactic| walk_at "call ref") => `(tactic| k_extra "coll")
local macro_rules | `(tactic| walk_at "call type:bytes") => `(tactic| k_extra "bytes")
local macro_rules | `(tactic| walk_at "call builtin:list.append") => `(tactic| k_extra "append")
theorem tops_spec (prog : Program) (w : World) (g : Heap) (b : Array UInt8) (ks : List Int) (t : Tok) (hk : KBw.bInts b = ks) (h7 : ks.length = 7) (hb : ∀ x ∈ ks, 0 ≤ x ∧ x < 8) :
    PC prog w 108 6 400 g [.bytes b t] (fun r tl => ∃ b' t', r = .bytes b' t' ∧ KBw.bInts b' = ((List.range 7).map fun j => mxl (ks.take (j + 1))) ∧ tl = []) := by
  intro mean mg mb dp un gd outer A₀ base s Q E hs' HB B hdp hun hret
  walk_at "p_enter"
  k_steps
  all_goals (try k_data)
  rename Fr _ _ _ _ => F0
  rename News _ _ _ [_] => N0
  refine Stop.out ?_
  rename_i L hx0 D _ _ _ 
  refine iter_bytes_gen [Str.ofString "height", Str.ofString "bar", Str.ofString "top"] (fun i u news => ∃ t1 ls m, u (Str.ofString "top") = some (.str (xx (mxl (ks.take i))) t1) ∧ news = [(D, W.listOf (List.toArray ls) m)] ∧ IntsAre ls ((List.range i).map fun j => mxl (ks.take (j + 1))))
    hk rfl F0 N0 ⟨_, [], 0, by rw [List.take_zero]; exact congrArg (fun z => some (Value.str z _)) xx_zero.symm, rfl, .nil⟩ ?_ ?_
  · clear F0 N0
    rintro I i k t u news₁ oI h tk hik hk0 hk1 ⟨t1, ls, m, hu, rfl, hls⟩ F2 N2 off
    have offD : @Ne Nat D I := off _ List.mem_cons_self
    replace F2 : Fr g _ h _ := Mine.Fr.carry F2 (k := Str.ofString "top") (by rw [if_pos rfl]; exact hu)
    replace N2 : News g _ h _ := N2
    k_with "coll" => (k_here; (with_reducible show wpAny _ _ (call (Value.ref 49) _) _ _ _); k_dflt (refine' PC.use (collx_spec _ _ _ k (mxl (ks.take i)) hk0 (mxl_nonneg _) _ _) rfl rfl rfl rfl ?k1 ?k2 ?k3 ?k4 ?k5 ?k6 ?k7 ?k8 ?_; (case k1 => k_asm); (case k2 => k_asm); (case k3 => k_asm); (case k4 => k_asm); (case k5 => k_asm); (case k6 => k_asm); (case k7 => ktr_room); (case k8 => ktr_units); k_whole); intro r' tl' h' tk' F' N' l1 hp'; obtain ⟨t', hr', ht'⟩ := hp'; subst hr' ht'; (try simp only [List.cons_append, List.nil_append, List.append_nil] at N'); (try k_sweep); (try dsimp only); (try k_fold))
    have hml : mxl (ks.take i) < 256 := mxl_lt (by decide) fun x hx => by have := hb x (List.mem_of_mem_take hx); omega
    k_with "len" => (first | refine len_xx (k := k) hk0 (by omega) ?_ | refine len_xx (k := mxl (ks.take i)) (mxl_nonneg _) (by omega) ?_); intro _ _
    k_with "append" => (refine Stop.out ?_)
    k_steps
    all_goals (try k_data)
    k_with_none
    all_goals unfold Stop
    all_goals rename Fr _ _ _ _ => F3
    all_goals rename News _ _ _ _ => N3
    all_goals (have hsz : ls.toArray.size ≤ sizeLine := by rw [List.size_toArray, hls.length, List.length_map, List.length_range, sizeLine_eq]; have := (List.getElem?_eq_some_iff.mp hik).1; omega)
    all_goals k_with "append" => (k_dflt (refine' append_K ?wF ?wN ?wU ?_ hsz; (case wF => k_asm); (case wN => k_asm); (case wU => k_upd); k_whole); intro h' F' N')
    all_goals k_steps
    all_goals (try k_data)
    all_goals k_with_none
    all_goals rename Fr _ _ _ _ => F4
    all_goals rename News _ _ _ _ => N4
    all_goals rw [List.push_toArray] at N4
    · rename 0 < ite _ _ _ => hc
      have hmk : mxl (ks.take (i + 1)) = k := by
        rw [mxl_take hik]
        by_cases h1 : mxl (ks.take i) < k
        · omega
        · rw [if_neg h1] at hc; split at hc <;> omega
      have e2 : ((Txt.mul (Str.ofString "x") k).length : Int) = k := by
        show ((xx k).length : Int) = k
        rw [xx_len]; omega
      rw [e2] at N4
      refine GEnd.intro [(D, W.listOf (ls ++ [Value.int k _]).toArray (m + 1))] F4 N4 (by k_mem) (fun p hp => List.mem_cons_of_mem _ hp) ?_ (fun y hy => by rw [if_neg (neS hy rfl), if_neg (neS hy rfl), if_neg (neS hy rfl), if_neg (neS hy rfl), if_neg (neT hy)])
        ⟨_, _, _, (if_pos rfl).trans (by rw [hmk]; rfl), rfl, ?_⟩
      · intro p hp
        obtain rfl := List.mem_singleton.mp hp
        exact offD
      · rw [List.range_succ, List.map_append, List.map_singleton, hmk]
        exact hls.append (.cons _ _ .nil)
    · rename ¬ (0 < ite _ _ _) => hc
      have hmk : mxl (ks.take (i + 1)) = mxl (ks.take i) := by
        rw [mxl_take hik]
        by_cases h1 : mxl (ks.take i) < k
        · rw [if_pos h1] at hc; exact absurd (by decide) hc
        · omega
      refine GEnd.intro [(D, W.listOf (ls ++ [Value.int (mxl (ks.take i)) _]).toArray (m + 1))] F4 N4 (by k_mem) (fun p hp => List.mem_cons_of_mem _ hp) ?_ (fun y hy => by rw [if_neg (neS hy rfl), if_neg (neS hy rfl), if_neg (neS hy rfl), if_neg (neT hy)])
        ⟨t1, _, _, (if_neg (by decide)).trans ((if_neg (by decide)).trans ((if_pos rfl).trans (by rw [hmk]))), rfl, ?_⟩
      · intro p hp
        obtain rfl := List.mem_singleton.mp hp
        exact offD
      · rw [List.range_succ, List.map_append, List.map_singleton, hmk]
        exact hls.append (.cons _ _ .nil)
  · rintro u news₁ h tk ⟨t1, ls, m, hu, rfl, hls⟩ F2 N2
    replace F2 : Fr g _ h _ := F2
    replace N2 : News g _ h _ := N2
    rw [h7] at hls
    have hin : KBa.In ((List.range 7).map fun j => mxl (ks.take (j + 1))) := fun x hx => by
      obtain ⟨j, _, rfl⟩ := List.mem_map.mp hx
      exact ⟨mxl_nonneg _, mxl_lt (by decide) fun x hx => by have := hb x (List.mem_of_mem_take hx); omega⟩
    k_with "bytes" => (k_dflt (refine' KBa.make_K F2 N2 rfl (News.isList N2 List.mem_cons_self) hls hin (by rw [List.length_map, List.length_range]; omega) ?_); intro h' t' k' F' N' _)
    k_steps
    k_with_none
    rename Fr _ _ _ _ => F4
    exact hret _ [] _ _ F4.keep (fun _ h => nomatch h) ⟨_, _, rfl, KBa.ints_make hin, rfl⟩

end Mine
end
section
-- PixZ
open PySem PySem.W PyProof.Rows PySem.Calls PySem.Spec
set_option Elab.async false
set_option maxRecDepth 100000
set_option maxHeartbeats 8000000
namespace Mine
theorem anew_PixZ : True ∧ True := by
  k_with_none
  first | (walk1; done) | exact ⟨trivial, trivial⟩
theorem fill_PixZ : (PySem.Challenge.rw_zn0017_01, hd.heap_39) = (PySem.Challenge.rw_zn0017_01, hd.heap_39) := by
  k_fill
  rfl
local macro_rules | `(tactic| walk_at "exec For Name Call cons nil") => `(tactic| (k_here; (with_unfolding_all refine' For_any ?_); k_whole))
local macro_rules | `(tactic| walk_at "pyIter ref") => `(tactic| ((with_reducible show wpAny _ _ (pyIter (Value.ref _)) (fun it s₂ => LoopG _ _ _ _ _ _ _ _ it s₂) _ _); refine Stop.out ?_))
local macro_rules | `(tactic| walk_at "call ref") => `(tactic| k_extra "call")
local macro_rules | `(tactic| walk_at "call type:bytes") => `(tactic| k_extra "bytes")
local macro_rules | `(tactic| walk_at "call builtin:list.extend") => `(tactic| k_extra "extend")
local macro_rules | `(tactic| k_all) => `(tactic| assumption)
def tops (ks : List Int) : List Int := (List.range 7).map fun j => mxl (ks.take (j + 1))
theorem tops_len (ks : List Int) : (tops ks).length = 7 := by simp [tops]
theorem tops_in {ks : List Int} (hb : ∀ x ∈ ks, 0 ≤ x ∧ x < 8) : ∀ x ∈ tops ks, 0 ≤ x ∧ x < 8 := fun x hx => by
  obtain ⟨j, _, rfl⟩ := List.mem_map.mp hx
  exact ⟨mxl_nonneg _, mxl_lt (by decide) fun x hx => (hb x (List.mem_of_mem_take hx)).2⟩
def pix (ks : List Int) : List Int := (List.range 7).flatMap fun k => [(tops ks).getD k 0, ks.getD k 0, (tops ks.reverse).reverse.getD k 0]
theorem flat3_len (a b c : Nat → Int) : ∀ n, ((List.range n).flatMap fun k => [a k, b k, c k]).length = 3 * n
  | 0 => rfl
  | n + 1 => by
    rw [List.range_succ, List.flatMap_append, List.length_append, flat3_len a b c n]
    simp
    omega
theorem pix_len (ks : List Int) : (pix ks).length = 21 := flat3_len _ _ _ 7
theorem getD_in8 {l : List Int} (h : ∀ x ∈ l, 0 ≤ x ∧ x < 8) (k : Nat) : 0 ≤ l.getD k 0 ∧ l.getD k 0 < 8 := by
  rw [List.getD_eq_getElem?_getD]
  cases hk : l[k]? with
  | none => decide
  | some x => exact h x (List.mem_of_getElem? hk)
theorem pix_in {ks : List Int} (_ : ks.length = 7) (hb : ∀ x ∈ ks, 0 ≤ x ∧ x < 8) : ∀ x ∈ pix ks, 0 ≤ x ∧ x < 8 := fun x hx => by
  obtain ⟨k, _, hk⟩ := List.mem_flatMap.mp hx
  simp only [List.mem_cons, List.not_mem_nil, or_false] at hk
  rcases hk with rfl | rfl | rfl
  · exact getD_in8 (tops_in hb) k
  · exact getD_in8 hb k
  · exact getD_in8 (fun y hy => tops_in (fun z hz => hb z (List.mem_reverse.mp hz)) y (List.mem_reverse.mp hy)) k
theorem pixels_spec (prog : Program) (w : World) (g : Heap) (b : Array UInt8) (ks : List Int) (t : Tok) (hk : KBw.bInts b = ks) (h7 : ks.length = 7) (hb : ∀ x ∈ ks, 0 ≤ x ∧ x < 8) :
    PCC prog w 115 8 600 g [.bytes b t] (fun r tl => ∃ b' t', r = .bytes b' t' ∧ KBw.bInts b' = pix ks ∧ tl = []) := by
  intro mean mg mb dp un gd outer A₀ base s Q E hs' HB B hdp hun hret
  walk_at "p_enter0"
  k_with "call" => (k_here; (with_reducible show wpAny _ _ (call (Value.ref 108) _) _ _ _); k_dflt (refine' PC.use (tops_spec _ _ _ b ks _ hk h7 hb) rfl rfl rfl rfl ?k1 ?k2 ?k3 ?k4 ?k5 ?k6 ?k7 ?k8 ?_; (case k1 => k_asm); (case k2 => k_asm); (case k3 => k_asm); (case k4 => k_asm); (case k5 => k_asm); (case k6 => k_asm); (case k7 => ktr_room); (case k8 => ktr_units); k_whole); intro r' tl' h' tk' F' N' l1 hp'; obtain ⟨bL, t', hr', hbL, ht'⟩ := hp'; subst hr' ht'; (try simp only [List.cons_append, List.nil_append, List.append_nil] at N'); (try k_sweep); (try dsimp only); (try k_fold))
  refine wpC_cons_any ?_
  k_steps
  all_goals (try k_data)
  k_with_none
  refine wpC_execs_cons (wpC_Assign_Name (wpC_Call_Name rfl ?_))
  k_steps
  refine callWithC2 (keeps_K (K := hd.heap_39 w.params) (by k_is)) (c_if_false rfl (wpC_Call_Name rfl ?_))
  k_steps
  refine callWithC1 (keeps_K (K := hd.heap_39 w.params) (by k_is)) (c_if_false rfl (wpC_Call_Name rfl ?_))
  k_steps
  refine callWithC2 (keeps_K (K := hd.heap_39 w.params) (by k_is)) (.of_any (bm_if_false rfl ?_))
  k_steps
  refine .of_any (bm_if_false rfl ?_)
  k_steps
  ((show wpC _ _ (call (Value.ref _) _) _ _ _); k_dflt (refine' PCC.use (swap_spec _ _ _ b ks _ _ 7 (.inl rfl) hk h7) rfl rfl rfl rfl ?k1 ?k2 ?k3 ?k4 ?k5 ?k6 ?k7 ?k8 ?_; (case k1 => k_asm); (case k2 => k_asm); (case k3 => k_asm); (case k4 => k_asm); (case k5 => k_asm); (case k6 => k_asm); (case k7 => ktr_room); (case k8 => ktr_units)); intro r' tl' h1' tk1' F' N' l1 hp'; obtain ⟨b1, t1, hr', hb1, ht'⟩ := hp'; subst hr' ht'; (try simp only [List.cons_append, List.nil_append, List.append_nil] at N'))
  have hrl : ks.reverse.length = 7 := by rw [List.length_reverse, h7]
  have hrb : ∀ x ∈ ks.reverse, 0 ≤ x ∧ x < 8 := fun x hx => hb x (List.mem_reverse.mp hx)
  rename Fr _ _ _ _ => F2
  rename News _ _ _ [] => N2
  rename Frag.In _ _ => X1
  refine ⟨X1.keeps F2.keep, .of_any ?_⟩
  k_with "call" => (k_here; (with_reducible show wpAny _ _ (call (Value.ref 108) _) _ _ _); k_dflt (refine' PC.use (tops_spec _ _ _ b1 ks.reverse _ hb1 hrl hrb) rfl rfl rfl rfl ?k1 ?k2 ?k3 ?k4 ?k5 ?k6 ?k7 ?k8 ?_; (case k1 => k_asm); (case k2 => k_asm); (case k3 => k_asm); (case k4 => k_asm); (case k5 => k_asm); (case k6 => k_asm); (case k7 => ktr_room); (case k8 => ktr_units); k_whole); intro r' tl' h' tk' F' N' l1 hp'; obtain ⟨b2, t2, hr', hb2, ht'⟩ := hp'; subst hr' ht'; (try simp only [List.cons_append, List.nil_append, List.append_nil] at N'); (try k_sweep); (try dsimp only); (try k_fold))
  k_steps
  k_with_none
  refine .of_any (bm_if_false rfl ?_)
  k_steps
  have h7r : (tops ks.reverse).length = 7 := tops_len _
  ((show wpC _ _ (call (Value.ref _) _) _ _ _); k_dflt (refine' PCC.use (swap_spec _ _ _ b2 (tops ks.reverse) _ _ 7 (.inl rfl) hb2 h7r) rfl rfl rfl rfl ?k1 ?k2 ?k3 ?k4 ?k5 ?k6 ?k7 ?k8 ?_; (case k1 => k_asm); (case k2 => k_asm); (case k3 => k_asm); (case k4 => k_asm); (case k5 => k_asm); (case k6 => k_asm); (case k7 => ktr_room); (case k8 => ktr_units)); intro r' tl' h1' tk1' F' N' l1 hp'; obtain ⟨b3, t3, hr', hb3, ht'⟩ := hp'; subst hr' ht'; (try simp only [List.cons_append, List.nil_append, List.append_nil] at N'))
  k_steps
  refine .of_any ?_
  k_steps
  rename Fr _ _ _ _ => F0
  rename News _ _ _ [_] => N0
  rename IsRange _ _ _ _ _ _ _ _ => R0
  refine Stop.out ?_
  have hbL' : KBw.bInts bL = tops ks := hbL
  have hLl : (tops ks).length = 7 := tops_len ks
  obtain ⟨R, hR⟩ : ∃ R, R = (tops ks.reverse).reverse := ⟨_, rfl⟩
  have hRl : R.length = 7 := by rw [hR, List.length_reverse, tops_len]
  rw [← hR] at hb3
  clear hbL hb2 hb1
  rename_i D _ _ _ _ _ _ _ _ _ _ _
  refine iter_range_gen (n := 7) [Str.ofString "k"] (fun i u news => ∃ (ls : List Value) (m : Nat), news = [(D, W.listOf ls.toArray m)] ∧ IntsAre ls ((List.range i).flatMap fun k => [(tops ks).getD k 0, ks.getD k 0, R.getD k 0]))
    rfl R0 (by decide) (by decide) F0 N0 ⟨[], 0, rfl, .nil⟩ ?_ ?_
  · clear F0 N0 R0
    rintro I i t u news₁ oI h tk hi7 ⟨ls, m, rfl, hls⟩ F2 N2 off
    have offD : @Ne Nat D I := off _ List.mem_cons_self
    replace F2 : Fr g _ h _ := F2
    replace N2 : News g _ h _ := N2
    k_with "extend" => (k_here; refine Stop.out ?_)
    k_steps
    k_with_none
    unfold Stop
    rename Fr _ _ _ _ => F3
    rename News _ _ _ _ => N3
    rename _ ∧ _ => l9
    have hl9 := l9.2
    have hsz : ls.length ≤ 18 := by
      rw [hls.length, flat3_len]
      omega
    refine kl_extend F3 N3 List.mem_cons_self rfl (by exact Nat.succ_ne_zero _) (.tail (Nat.ne_of_gt hl9) (.tail (Ne.symm offD) (.head (List.forall_mem_nil _)))) ?_ ?_ ?_ (fun h' F' N' => ?_)
    · have : Builtin.List.listTooLong (ls.toArray.size + 3) = false := by
        unfold Builtin.List.listTooLong
        rw [decide_eq_false_iff_not, List.size_toArray, sizeLine_eq]
        omega
      intro hc
      have h2 := (Bool.and_eq_true_iff.mp hc).2
      exact absurd (this.symm.trans h2) (by decide)
    · show ls.length ≤ _
      rw [sizeLine_eq]; omega
    · show ls.toArray.size + 3 ≤ _
      rw [List.size_toArray, sizeLine_eq]; omega
    k_steps
    rename Fr _ _ _ _ => F4
    rename News _ _ _ _ => N4
    obtain ⟨ws, lo, N5, hI3⟩ : ∃ (ws : List Value) (lo : Addr × Obj), News g _ _ [lo, (I, oI), (D, W.listOf (ls ++ ws).toArray (m + 1))] ∧ IntsAre ws [(tops ks).getD (0 + (i : Int)).toNat 0, ks.getD (0 + (i : Int)).toNat 0, R.getD (0 + (i : Int)).toNat 0] := ⟨_, _, N4, .cons _ _ (.cons _ _ (.cons _ _ .nil))⟩
    refine GEnd.intro [(D, W.listOf (ls ++ ws).toArray (m + 1))] F4 N5 (by k_mem) (fun p hp => by
      obtain rfl := List.mem_singleton.mp hp
      exact List.mem_cons_of_mem _ (List.mem_cons_of_mem _ List.mem_cons_self)) (fun p hp => by
      obtain rfl := List.mem_singleton.mp hp
      exact offD) (fun y hy => by rw [if_neg (neS hy rfl), if_neg (neT hy)]) ⟨_, _, rfl, ?_⟩
    rw [List.range_succ, List.flatMap_append, List.flatMap_singleton]
    rw [zero_nat] at hI3
    exact hls.append hI3
  · rintro u news₁ h tk ⟨ls, m, rfl, hls⟩ F2 N2
    replace F2 : Fr g _ h _ := F2
    replace N2 : News g _ h _ := N2
    have hpx : ((List.range 7).flatMap fun k => [(tops ks).getD k 0, ks.getD k 0, R.getD k 0]) = pix ks := by rw [hR]; rfl
    rw [hpx] at hls
    have hin : KBa.In (pix ks) := fun x hx => by
      have := pix_in h7 hb x hx
      omega
    k_with "bytes" => (k_dflt (refine' KBa.make_K F2 N2 rfl (News.isList N2 List.mem_cons_self) hls hin (by rw [pix_len]; omega) ?_); intro h' t' k' F' N' _)
    k_steps
    k_with_none
    rename Fr _ _ _ _ => F4
    exact hret _ [] _ _ F4.keep (fun _ h => nomatch h) ⟨_, _, rfl, KBa.ints_make hin, rfl⟩

end Mine
end
section
-- DictZ
open PySem PySem.W PyProof.Rows PySem.Calls PySem.Spec PyProof.V
set_option Elab.async false
set_option maxRecDepth 100000
set_option maxHeartbeats 8000000
namespace Mine
theorem fill_DictZ : (PySem.Challenge.rw_zn0017_01, hd.heap_39) = (PySem.Challenge.rw_zn0017_01, hd.heap_39) := by
  k_fill
  rfl
section
variable {prog : Program} {w : World} {A : Around} {E : Value → Shared → Prop} {s : Shared} {env : Env} {h₀ : Heap} {target : Expr} {body : List Stmt} {Q : Flow → Shared → Prop}
/-- a loop over what hands out its own tuple, by an invariant over its frame and its ledger -/
theorem turns_gen {I : Addr} {fp : List Addr} {n : Nat} {P Md : Nat → Value → Heap → Prop} {St : Nat → Heap → Prop} {m₀ : Str → Option Value} {news : List (Addr × Obj)} (stored : List Str) (J : Nat → (Str → Option Value) → List (Addr × Obj) → Prop)
    (W : KTurns prog w A target I fp [I] n P Md St) (hfp : ∀ b ∈ fp, b = I ∨ ∃ o, h₀.get? b = some o) (hIo : ∀ i h, St i h → ∃ o, h.get? I = some o) (hI0 : h₀.get? I = none) (hIL : env.locals ≠ I)
    (st : St 0 s.heap) (F : Fr h₀ env.locals s.heap m₀) (N : News h₀ env.locals s.heap news) (off : ∀ p ∈ news, p.1 ≠ I) (j0 : J 0 m₀ news)
    (turn : ∀ i v (u : Str → Option Value) news₁ oI h tk, i < n → P i v h → J i u news₁ → Fr h₀ env.locals h (fun y => if stored.contains y then u y else m₀ y) → News h₀ env.locals h ((I, oI) :: news₁) → (∀ p ∈ news₁, p.1 ≠ I) →
      wpAny (model prog w) A (assign target env v) (fun _ s' => wpAny (model prog w) A (execs body env) (GPost h₀ env.locals stored m₀ I oI (J (i + 1)) { s with heap := h, toks := tk } Q) E s') E { s with heap := h, toks := tk })
    (done : ∀ (u : Str → Option Value) news₁ h tk, J n u news₁ → Fr h₀ env.locals h (fun y => if stored.contains y then u y else m₀ y) → News h₀ env.locals h news₁ → Q .next { s with heap := h, toks := tk }) :
    LoopG prog w A env target body Q E (.ref I) s := by
  have eqm : ∀ m₁ : Str → Option Value, (∀ y, stored.contains y = false → m₁ y = m₀ y) → (fun y => if stored.contains y then m₁ y else m₀ y) = m₁ := fun m₁ hm => by
    funext y
    cases h2 : stored.contains y with
    | true => simp
    | false => simp [hm y h2]
  refine ⟨fun k s' => ∃ h' tk m' news' i, s' = { s with heap := h', toks := tk } ∧ St i h' ∧ Fr h₀ env.locals h' m' ∧ News h₀ env.locals h' news' ∧ (∀ p ∈ news', p.1 ≠ I) ∧ (∀ y, stored.contains y = false → m' y = m₀ y) ∧ J i m' news' ∧ i ≤ n ∧ k = n + 1 - i, n + 1,
    ⟨s.heap, s.toks, m₀, news, 0, rfl, st, F, N, off, fun _ _ => rfl, j0, Nat.zero_le _, rfl⟩, ?_⟩
  rintro k s' ⟨h', tk, m', news', i, rfl, hst', F', N', hoff, hm, hJ, hi, rfl⟩
  have next : ∀ (ha h₁ : Heap), Fr h₀ env.locals ha m' → News h₀ env.locals ha news' → (∀ b o, b ∉ [I] → ha.get? b = some o → h₁.get? b = some o) → Fr h₀ env.locals h₁ m' ∧ News h₀ env.locals h₁ news' := fun ha h₁ Fa Na hk₁ =>
    ⟨LCg.fr_but Fa hk₁ hIL hI0, LCg.news_but Na hk₁ hoff⟩
  by_cases hlt : i < n
  · refine W.item i _ _ _ hlt hst' fun v h₁ tk₁ hM hk₁ => ?_
    obtain ⟨F₁, N₁⟩ := next h' h₁ F' N' hk₁
    dsimp only
    refine W.go i v _ _ _ hM fun h₂ hP hst₁ hk₂ => ?_
    obtain ⟨F₂, N₂'⟩ := next h₁ h₂ F₁ N₁ hk₂
    obtain ⟨oI, heI⟩ := hIo _ _ hst₁
    have N₂ : News h₀ env.locals h₂ ((I, oI) :: news') := fun p hp => by
      rcases List.mem_cons.mp hp with rfl | hp
      · exact ⟨heI, Ne.symm hIL, hI0⟩
      · exact N₂' _ hp
    rw [← eqm m' hm] at F₂
    refine wpAny_mono (turn i v m' news' oI h₂ tk₁ hlt hP hJ F₂ N₂ hoff) (fun _ s₂ hq => wpAny_mono hq (fun f s₃ h₃ => ?_) fun _ _ e => e) fun _ _ e => e
    have fin : GEnd h₀ env.locals stored m₀ I oI (J (i + 1)) { s with heap := h₂, toks := tk₁ } s₃ → ∃ m, m < n + 1 - i ∧ ∃ h' tk m' news' i, s₃ = { s with heap := h', toks := tk } ∧ St i h' ∧ Fr h₀ env.locals h' m' ∧ News h₀ env.locals h' news' ∧ (∀ p ∈ news', p.1 ≠ I) ∧ (∀ y, stored.contains y = false → m' y = m₀ y) ∧ J i m' news' ∧ i ≤ n ∧ m = n + 1 - i := by
      rintro ⟨hp₃, tk₃, m₃, news₃, rfl, F₃, N₃, off₃, hm₃, J₃⟩
      refine ⟨n + 1 - (i + 1), by omega, hp₃, tk₃, m₃, news₃, i + 1, rfl, W.frame _ _ _ hst₁ (fun b hb o e => ?_), F₃, fun p hp => N₃ p (List.mem_cons_of_mem _ hp), off₃, hm₃, J₃, hlt, rfl⟩
      rcases hfp b hb with h1 | ⟨o', h1⟩
      · rw [h1, heI] at e
        cases e
        rw [h1]
        exact (N₃ _ (List.mem_cons_self ..)).1
      · have := F₂.keep _ _ h1
        rw [e] at this
        cases this
        exact F₃.keep _ _ h1
    cases f with
    | ret v => exact h₃
    | brk => exact h₃
    | next => exact fin h₃
    | cont => exact fin h₃
  · have hin : i = n := by omega
    subst hin
    refine W.done _ _ _ hst' fun h₁ tk₁ hk₁ => ?_
    obtain ⟨F₁, N₁⟩ := next h' h₁ F' N' hk₁
    rw [← eqm m' hm] at F₁
    exact done m' news' h₁ tk₁ hJ F₁ N₁
variable {K : Type} [DecidableEq K] {knd : KeyKind prog w K} {kvs : List (K × Value)}
theorem iter_items_gen {a b : Str} {pa pb tp : Pos} {kk : Nat} {d vw : Addr} {m₀ : Str → Option Value} {news : List (Addr × Obj)} (stored : List Str) (J : Nat → (Str → Option Value) → List (Addr × Obj) → Prop)
    (hh : A.handled = none) (hd : h₀.DictOf knd d kvs) (hvw : s.heap.IsItemsView vw d) (F : Fr h₀ env.locals s.heap m₀) (N : News h₀ env.locals s.heap news) (j0 : J 0 m₀ news)
    (ha : env.kindOf a = some .local) (hb : env.kindOf b = some .local) (hp : (env.scope.kind == .class || (env.scope.kind == .module && env.locals != env.globals)) = false)
    (turn : ∀ I i k x key (u : Str → Option Value) news₁ oI h tk, kvs[i]? = some (k, x) → knd.is k key = true → J i u news₁ → Fr h₀ env.locals h (fun y => if y = b then some x else if y = a then some key else if stored.contains y then u y else m₀ y) → News h₀ env.locals h ((I, oI) :: news₁) → (∀ p ∈ news₁, p.1 ≠ I) →
      wpAny (model prog w) A (execs body env) (GPost h₀ env.locals stored m₀ I oI (J (i + 1)) { s with heap := h, toks := tk } Q) E { s with heap := h, toks := tk })
    (done : ∀ (u : Str → Option Value) news₁ h tk, J kvs.length u news₁ → Fr h₀ env.locals h (fun y => if stored.contains y then u y else m₀ y) → News h₀ env.locals h news₁ → Q .next { s with heap := h, toks := tk }) :
    wpAny (model prog w) A (pyIter (.ref vw)) (fun it s₂ => LoopG prog w A env (.Tuple [.Name a pa, .Name b pb] kk tp) body Q E it s₂) E s := by
  obtain ⟨od, es, ep, hod, r⟩ := id hd
  have hat : s.heap.DictAt knd d kvs ep := ⟨od, es, F.keep _ _ hod, r⟩
  have hne : d ≠ s.heap.objs.size := Nat.ne_of_lt hat.lt_size
  refine wpAny_pyIter_items hvw hat ?_
  refine turns_gen stored J (kti_itemsTurns (knd := knd) hh s.heap.objs.size d hne kvs ep) (fun b hb => ?_) (fun i h st => ?_) (next_is_new F) (Nat.ne_of_lt F.ns.lt) ⟨⟨.none, .none, Heap.get?_push_size _ rfl⟩, hat.push _⟩
    (F.push _) (fun p hp => ⟨Heap.get?_push_of_some _ (N p hp).1, (N p hp).2⟩) (fun p hp => Nat.ne_of_lt (Heap.lt_size (N p hp).1)) j0 (fun i v u news₁ oI h tk hi hP hJ F₁ N₁ ho => ?_) (fun u news₁ h tk => done u news₁ h tk)
  · simp only [List.mem_cons, List.not_mem_nil, or_false] at hb
    rcases hb with rfl | rfl
    · exact .inl rfl
    · exact .inr ⟨od, hod⟩
  · obtain ⟨⟨ok, ov, he⟩, _⟩ := st
    exact ⟨_, he⟩
  · obtain ⟨T, key, k, x, rfl, hx, hk, hT⟩ := hP
    refine kcp_assign hh hT ha hb hp F₁.ns fun h' tk' hn hk' => ?_
    have hlt : ∀ c o, h₀.get? c = some o → c ≠ env.locals := fun c o e => Nat.ne_of_lt (Nat.lt_of_lt_of_le (Heap.lt_size e) F₁.above)
    exact turn _ i k x key u news₁ oI h' tk' hx hk hJ ⟨hn, fun c o e => hk' c o (hlt c o e) (F₁.keep c o e), F₁.above⟩ (fun p hp => ⟨hk' _ _ (N₁ p hp).2.1 (N₁ p hp).1, (N₁ p hp).2⟩) ho
theorem iter_values_gen {x : Str} {px : Pos} {d vw : Addr} {m₀ : Str → Option Value} {news : List (Addr × Obj)} (stored : List Str) (J : Nat → (Str → Option Value) → List (Addr × Obj) → Prop)
    (hh : A.handled = none) (hd : h₀.DictOf knd d kvs) (hvw : s.heap.IsValuesView vw d) (F : Fr h₀ env.locals s.heap m₀) (N : News h₀ env.locals s.heap news) (j0 : J 0 m₀ news)
    (turn : ∀ I i k v (u : Str → Option Value) news₁ oI h tk, kvs[i]? = some (k, v) → J i u news₁ → Fr h₀ env.locals h (fun y => if stored.contains y then u y else m₀ y) → News h₀ env.locals h ((I, oI) :: news₁) → (∀ p ∈ news₁, p.1 ≠ I) →
      wpAny (model prog w) A (storeName env x v) (fun _ s' => wpAny (model prog w) A (execs body env) (GPost h₀ env.locals stored m₀ I oI (J (i + 1)) { s with heap := h, toks := tk } Q) E s') E { s with heap := h, toks := tk })
    (done : ∀ (u : Str → Option Value) news₁ h tk, J kvs.length u news₁ → Fr h₀ env.locals h (fun y => if stored.contains y then u y else m₀ y) → News h₀ env.locals h news₁ → Q .next { s with heap := h, toks := tk }) :
    wpAny (model prog w) A (pyIter (.ref vw)) (fun it s₂ => LoopG prog w A env (.Name x px) body Q E it s₂) E s := by
  obtain ⟨od, es, ep, hod, r⟩ := id hd
  have hat : s.heap.DictAt knd d kvs ep := ⟨od, es, F.keep _ _ hod, r⟩
  have hne : d ≠ s.heap.objs.size := Nat.ne_of_lt hat.lt_size
  refine wpAny_pyIter_values hvw hat ?_
  refine iter_gen stored J (fun _ _ => rfl) (Walks.dictValues (knd := knd) hh s.heap.objs.size d hne kvs ep) (fun b hb => ?_) (fun i h st => ⟨_, st.1.choose_spec.1⟩) (next_is_new F) (Nat.ne_of_lt F.ns.lt) ⟨⟨_, Heap.get?_push_size _ rfl, rfl, rfl⟩, hat.push _⟩
    (F.push _) (fun p hp => ⟨Heap.get?_push_of_some _ (N p hp).1, (N p hp).2⟩) (fun p hp => Nat.ne_of_lt (Heap.lt_size (N p hp).1)) j0 (fun i v u news₁ oI h tk hi hP hJ F₁ N₁ ho => ?_) (fun u news₁ h tk => done u news₁ h tk)
  · simp only [List.mem_cons, List.not_mem_nil, or_false] at hb
    rcases hb with rfl | rfl
    · exact .inl rfl
    · exact .inr ⟨od, hod⟩
  · obtain ⟨k, hx⟩ := hP
    exact wpAny_assign_Name (turn _ i k v u news₁ oI h tk hx hJ F₁ N₁ ho)
variable {L d : Addr} {m : Str → Option Value} {news : List (Addr × Obj)} {R : Value → Shared → Prop}
theorem callItems_g (F : Fr h₀ L s.heap m) (N : News h₀ L s.heap news) (hd : h₀.DictOf knd d kvs) (lo : (d == sysModules) = false)
    (h : ∀ vw h', h'.IsItemsView vw d → Fr h₀ L h' m → News h₀ L h' news → R (.ref vw) { s with heap := h' }) : wpAny (model prog w) A (call (.builtin "dict.items") [.ref d]) R E s :=
  have hD := hd.keep F.keep
  call_meetsIn PySem.F.slot_dict_items hD.typeIs PySem.F.entry_dict_items (PySem.F.args_dict_items_1 _) (meets_dict_items knd d lo) ⟨⟨kvs, hD⟩, h _ _ ⟨_, Heap.get?_push_size _ rfl, rfl, rfl⟩ (F.push _) fun p hp => ⟨Heap.get?_push_of_some _ (N p hp).1, (N p hp).2⟩⟩
theorem callValues_g (F : Fr h₀ L s.heap m) (N : News h₀ L s.heap news) (hd : h₀.DictOf knd d kvs) (lo : (d == sysModules) = false)
    (h : ∀ vw h', h'.IsValuesView vw d → Fr h₀ L h' m → News h₀ L h' news → R (.ref vw) { s with heap := h' }) : wpAny (model prog w) A (call (.builtin "dict.values") [.ref d]) R E s :=
  have hD := hd.keep F.keep
  call_meetsIn PySem.F.slot_dict_values hD.typeIs PySem.F.entry_dict_values (PySem.F.args_dict_values_1 _) (meets_dict_values knd d lo) ⟨⟨kvs, hD⟩, h _ _ ⟨_, Heap.get?_push_size _ rfl, rfl, rfl⟩ (F.push _) fun p hp => ⟨Heap.get?_push_of_some _ (N p hp).1, (N p hp).2⟩⟩
end

end Mine
end
section
-- AddZ
open PySem PySem.W PyProof.Rows PySem.Calls PySem.Spec PyProof.V
set_option Elab.async false
set_option maxRecDepth 100000
set_option maxHeartbeats 8000000
namespace Mine
theorem anew_AddZ : True ∧ True := by
  k_with_none
  first | (walk1; done) | exact ⟨trivial, trivial⟩
theorem fill_AddZ : (PySem.Challenge.rw_zn0017_01, hd.heap_39) = (PySem.Challenge.rw_zn0017_01, hd.heap_39) := by
  k_fill
  rfl
def SD (prog : Program) (w : World) (o : Obj) (c : List (Str × Int)) : Prop := ∃ kvs, o.IsDictOf (PySem.strKind prog w) kvs ∧ FlatPairs PyData.str kvs (kdpD c)
def Dct (prog : Program) (w : World) (g : Heap) (a : Addr) (c : List (Str × Int)) : Prop := (a == sysModules) = false ∧ ∃ o, g.get? a = some o ∧ SD prog w o c
def addP (c : List (Str × Int)) (p : Str × Int) : List (Str × Int) := kdpPut c p.1 (kdpLook c p.1 0 + p.2)
def putP (c : List (Str × Int)) (p : Str × Int) : List (Str × Int) := kdpPut c p.1 p.2
def addC (a b : List (Str × Int)) : List (Str × Int) := b.foldl addP (a.foldl putP [])
theorem flat_at {kvs : List (Str × Value)} {c : List (Str × Int)} (hf : FlatPairs PyData.str kvs (kdpD c)) {i : Nat} {k : Str} {x : Value} (h : kvs[i]? = some (k, x)) : ∃ e t, x = .int e t ∧ c[i]? = some (k, e) := by
  have hl := hf.length
  rw [kdpD_length] at hl
  obtain ⟨hi, he⟩ := List.getElem?_eq_some_iff.mp h
  have key : ∀ (kvs : List (Str × Value)) (c : List (Str × Int)), FlatPairs PyData.str kvs (kdpD c) → ∀ (i : Nat) (k : Str) (x : Value), kvs[i]? = some (k, x) → ∃ (e : Int) (t : Tok), x = Value.int e t ∧ c[i]? = some (k, e) := by
    intro kvs
    induction kvs with
    | nil => intro c _ i k x h; simp at h
    | cons p r ih =>
      intro c hc i k x h
      obtain ⟨pk, pv⟩ := p
      cases c with
      | nil => cases hc
      | cons q c =>
        obtain ⟨qk, qv⟩ := q
        have hc' : FlatPairs PyData.str ((pk, pv) :: r) ((PyData.str qk, PyData.int qv) :: kdpD c) := hc
        cases hc' with
        | cons hv hr =>
          cases i with
          | zero =>
            simp only [List.getElem?_cons_zero, Option.some.injEq, Prod.mk.injEq] at h
            obtain ⟨t, ht⟩ := PyProof.V.Flat.int_inv hv
            exact ⟨qv, t, h.2 ▸ ht, by simp [h.1]⟩
          | succ j =>
            simp only [List.getElem?_cons_succ] at h ⊢
            exact ih c hr j k x h
  exact key kvs c hf i k x h
theorem method_g {prog : Program} {w : World} {A : Around} {E : Value → Shared → Prop} {s : Shared} {h₀ : Heap} {K : Type} [DecidableEq K] {knd : KeyKind prog w K} {kvs : List (K × Value)} {L d : Addr} {m : Str → Option Value} {name : Str} {id : String} {pl : Sem Bool} {Q : Value × List Value → Shared → Prop}
    (F : Fr h₀ L s.heap m) (hd : h₀.DictOf knd d kvs) (slot : Slot "dict" name id) (ty : typeOf (.builtin id) = pure (.type "method_descriptor")) (h : Q (.builtin id, [.ref d]) s) :
    wpAny (model prog w) A (getMethod (.ref d) name pl) Q E s :=
  have hD := hd.keep F.keep
  getMethod_builtin hD.typeIs PySem.F.plainAttrs_dict slot ty hD.mapOf.noDict h
theorem putP_len : ∀ (l c : List (Str × Int)), (l.foldl putP c).length ≤ c.length + l.length
  | [], c => Nat.le_refl _
  | p :: r, c => by
    have h1 := putP_len r (putP c p)
    have h2 := kdpPut_len c p.1 p.2
    simp only [List.foldl_cons, List.length_cons] at h1 ⊢
    unfold putP at h1 h2 ⊢
    omega
theorem addP_len : ∀ (l c : List (Str × Int)), (l.foldl addP c).length ≤ c.length + l.length
  | [], c => Nat.le_refl _
  | p :: r, c => by
    have h1 := addP_len r (addP c p)
    have h2 := kdpPut_len c p.1 (kdpLook c p.1 0 + p.2)
    simp only [List.foldl_cons, List.length_cons] at h1 ⊢
    unfold addP at h1 h2 ⊢
    omega
theorem take_foldl {α β : Type} (f : β → α → β) (c : β) {l : List α} {i : Nat} {x : α} (h : l[i]? = some x) : (l.take (i + 1)).foldl f c = f ((l.take i).foldl f c) x := by
  rw [List.take_add_one, h, List.foldl_append]
  rfl
theorem look_none {c : List (Str × Int)} {k : Str} (h : kdpHas c k = false) : kdpLook c k 0 = 0 := by
  unfold kdpLook
  have : c.find? (fun p => decide (p.1 = k)) = none := by
    rw [List.find?_eq_none]
    intro p hp
    unfold kdpHas at h
    rw [List.any_eq_false] at h
    exact h p hp
  rw [this]; rfl
local macro_rules | `(tactic| walk_at "exec For Tuple Call cons nil") => `(tactic| (k_here; (with_unfolding_all refine' For_any ?_); k_whole))
local macro_rules | `(tactic| walk_at "pyIter ref") => `(tactic| ((with_reducible show wpAny _ _ (pyIter (Value.ref _)) (fun it s₂ => LoopG _ _ _ _ _ _ _ _ it s₂) _ _); refine Stop.out ?_))
local macro_rules | `(tactic| walk_at "getMethod ref") => `(tactic| k_extra "method")
local macro_rules | `(tactic| walk_at "call builtin:dict.items") => `(tactic| k_extra "items")
theorem callers_spec (prog : Program) (w : World) (g : Heap) (a b : Addr) (cA cB : List (Str × Int)) (hA : Dct prog w g a cA) (hB : Dct prog w g b cB) (hl : cA.length + cB.length ≤ 1000) :
    PC prog w 77 3 200 g [.ref a, .ref b] (fun r tl => ∃ D o, r = .ref D ∧ tl = [(D, o)] ∧ (D == sysModules) = false ∧ SD prog w o (addC cA cB)) := by
  intro mean mg mb dp un gd outer A₀ base s Q E hs' HB B hdp hun hret
  obtain ⟨loA, oA, hoA, kvA, dA, fA⟩ := hA
  obtain ⟨loB, oB, hoB, kvB, dB, fB⟩ := hB
  have DA : g.DictOf (PySem.strKind prog w) a kvA := Heap.dictOf_iff.mpr ⟨oA, hoA, dA⟩
  have DB : g.DictOf (PySem.strKind prog w) b kvB := Heap.dictOf_iff.mpr ⟨oB, hoB, dB⟩
  walk_at "p_enter"
  k_with "method" => (first | refine' method_g ?mF DA PySem.F.slot_dict_items ?mt ?_; (case mF => k_asm); (case mt => kernel_rfl))
  k_with "items" => (refine' callItems_g ?mF ?mN DA loA ?_; (case mF => k_asm); (case mN => k_asm); intro vw h' hv' F' N')
  k_steps
  all_goals (try k_data)
  k_with_none
  rename Fr _ _ _ _ => F0
  rename News _ _ _ [_] => N0
  rename Heap.IsItemsView _ _ _ => V0
  rename Obj.IsDictOf (intKind prog w) _ _ => hi0
  rename Obj.IsDictOf (PySem.strKind prog w) _ [] => hs0
  rename_i L hx0 D hx2 o0 lo0 _ _ _ _ _ _ 
  clear hi0
  refine Stop.out ?_
  refine iter_items_gen [Str.ofString "func", Str.ofString "caller"] (fun i u news => ∃ o kvs, news = [(D, o)] ∧ o.IsDictOf (PySem.strKind prog w) kvs ∧ FlatPairs PyData.str kvs (kdpD ((cA.take i).foldl putP [])))
    rfl DA V0 F0 N0 ⟨o0, [], rfl, hs0, .nil⟩ rfl rfl rfl ?_ ?_
  · clear F0 N0 V0 hs0
    rintro I i k x key u news₁ oI h tk hx hk ⟨o, kvs, rfl, hd1, hf1⟩ F2 N2 off
    have offD : @Ne Nat D I := off _ List.mem_cons_self
    obtain ⟨e, te, rfl, hce⟩ := flat_at fA hx
    obtain ⟨tk2, rfl⟩ := Value.isStrOf_shape hk
    replace F2 : Fr g _ h _ := F2
    replace N2 : News g _ h _ := N2
    have hlen := putP_len (cA.take i) []
    have hlt : (cA.take i).length ≤ 1000 := by rw [List.length_take]; omega
    have hcl : ((cA.take i).foldl putP []).length ≤ 1000 := by simp only [List.length_nil] at hlen; omega
    k_steps
    rename Fr _ _ _ _ => F4
    rename News _ _ _ _ => N4
    rename Obj.IsDictOf (PySem.strKind prog w) _ _ => hd4
    rename FlatPairs PyData.str _ (kdpD (kdpPut _ _ _)) => hf4
    refine GEnd.intro [(D, _)] F4 N4 (by k_mem) (fun p hp => List.mem_cons_of_mem _ hp) (fun p hp => by
      obtain rfl := List.mem_singleton.mp hp
      exact offD) (fun y hy => by rw [if_neg (neS hy rfl), if_neg (neS hy rfl), if_neg (neT hy)]) ⟨_, _, rfl, hd4, ?_⟩
    rw [take_foldl putP [] hce]
    exact hf4
  · clear F0 N0 V0 hs0
    have hAl : (cA.take kvA.length) = cA := by rw [List.take_of_length_le]; have := fA.length; rw [kdpD_length] at this; omega
    rintro u news₁ h tk ⟨o1, kvs1, rfl, hd1, hf1⟩ F1 N1
    rw [hAl] at hf1
    replace F1 : Fr g _ h _ := F1
    replace N1 : News g _ h _ := N1
    k_with "method" => (refine' method_g ?mF DB PySem.F.slot_dict_items ?mt ?_; (case mF => k_asm); (case mt => kernel_rfl))
    k_with "items" => (refine' callItems_g ?mF ?mN DB loB ?_; (case mF => k_asm); (case mN => k_asm); intro vw h' hv' F' N')
    k_steps
    k_with_none
    rename Fr _ _ _ _ => F0
    rename News _ _ _ [_] => N0
    rename Heap.IsItemsView _ _ _ => V0
    refine Stop.out ?_
    refine iter_items_gen [Str.ofString "func", Str.ofString "caller"] (fun i u news => ∃ o kvs, news = [(D, o)] ∧ o.IsDictOf (PySem.strKind prog w) kvs ∧ FlatPairs PyData.str kvs (kdpD ((cB.take i).foldl addP (cA.foldl putP []))))
      rfl DB V0 F0 N0 ⟨o1, kvs1, rfl, hd1, hf1⟩ rfl rfl rfl ?_ ?_
    · clear F0 N0 V0 hd1 hf1 F1 N1
      rintro I i k x key u news₁ oI h tk hx hk ⟨o, kvs, rfl, hd1, hf1⟩ F2 N2 off
      have offD : @Ne Nat D I := off _ List.mem_cons_self
      obtain ⟨e, te, rfl, hce⟩ := flat_at fB hx
      obtain ⟨tk2, rfl⟩ := Value.isStrOf_shape hk
      replace F2 : Fr g _ h _ := F2
      replace N2 : News g _ h _ := N2
      have hlen := addP_len (cB.take i) (cA.foldl putP [])
      have hlen2 := putP_len cA []
      have hlt : (cB.take i).length ≤ cB.length := by rw [List.length_take]; omega
      have hcl : ((cB.take i).foldl addP (cA.foldl putP [])).length ≤ 1000 := by simp only [List.length_nil] at hlen2; omega
      k_steps
      all_goals (try k_data)
      all_goals rename Fr _ _ _ _ => F4
      all_goals rename News _ _ _ _ => N4
      all_goals rename Obj.IsDictOf (PySem.strKind prog w) _ _ => hd4
      all_goals rename FlatPairs PyData.str _ (kdpD (kdpPut _ _ _)) => hf4
      · refine GEnd.intro [(D, _)] F4 N4 (by k_mem) (fun p hp => List.mem_cons_of_mem _ hp) (fun p hp => by
          obtain rfl := List.mem_singleton.mp hp
          exact offD) (fun y hy => by rw [if_neg (neS hy rfl), if_neg (neS hy rfl), if_neg (neT hy)]) ⟨_, _, rfl, hd4, ?_⟩
        rw [take_foldl addP _ hce]
        exact hf4
      · rename kdpHas _ _ = false => hno
        refine GEnd.intro [(D, _)] F4 N4 (by k_mem) (fun p hp => List.mem_cons_of_mem _ hp) (fun p hp => by
          obtain rfl := List.mem_singleton.mp hp
          exact offD) (fun y hy => by rw [if_neg (neS hy rfl), if_neg (neS hy rfl), if_neg (neT hy)]) ⟨_, _, rfl, hd4, ?_⟩
        rw [take_foldl addP _ hce]
        have e9 : addP ((cB.take i).foldl addP (cA.foldl putP [])) (k, e) = kdpPut ((cB.take i).foldl addP (cA.foldl putP [])) k e := by
          show kdpPut _ k (kdpLook _ k 0 + e) = _
          rw [look_none hno, Int.zero_add]
        rw [e9]
        exact hf4
    · clear F0 N0 V0 hd1 hf1 F1 N1
      have hBl : (cB.take kvB.length) = cB := by rw [List.take_of_length_le]; have := fB.length; rw [kdpD_length] at this; omega
      rintro u news₁ h tk ⟨o1, kvs1, rfl, hd1, hf1⟩ F1 N1
      rw [hBl] at hf1
      replace F1 : Fr g _ h _ := F1
      replace N1 : News g _ h _ := N1
      k_steps
      exact hret _ [(D, o1)] _ _ F1.keep (left_of N1) ⟨D, o1, rfl, rfl, lo0, kvs1, hd1, hf1⟩

end Mine
end
section
-- CountZ
open PySem PySem.W PyProof.Rows PySem.Calls PySem.Spec PyProof.V
set_option Elab.async false
set_option maxRecDepth 100000
set_option maxHeartbeats 8000000
namespace Mine
theorem anew_CountZ : True ∧ True := by
  k_with_none
  first | (walk1; done) | exact ⟨trivial, trivial⟩
theorem fill_CountZ : (PySem.Challenge.rw_zn0017_01, hd.heap_39) = (PySem.Challenge.rw_zn0017_01, hd.heap_39) := by
  k_fill
  rfl
local macro_rules | `(tactic| walk_at "exec For Name Call cons nil") => `(tactic| (k_here; (with_unfolding_all refine' For_any ?_); k_whole))
local macro_rules | `(tactic| walk_at "pyIter ref") => `(tactic| ((with_reducible show wpAny _ _ (pyIter (Value.ref _)) (fun it s₂ => LoopG _ _ _ _ _ _ _ _ it s₂) _ _); refine Stop.out ?_))
local macro_rules | `(tactic| walk_at "getMethod ref") => `(tactic| k_extra "method")
local macro_rules | `(tactic| walk_at "call builtin:dict.values") => `(tactic| k_extra "values")
theorem count_spec (prog : Program) (w : World) (g : Heap) (a : Addr) (cA : List (Str × Int)) (hA : Dct prog w g a cA) :
    PC prog w 84 3 200 g [.ref a] (fun r tl => ∃ t', r = .int ((cA.map (·.2)).sum) t' ∧ tl = []) := by
  intro mean mg mb dp un gd outer A₀ base s Q E hs' HB B hdp hun hret
  obtain ⟨loA, oA, hoA, kvA, dA, fA⟩ := hA
  have DA : g.DictOf (PySem.strKind prog w) a kvA := Heap.dictOf_iff.mpr ⟨oA, hoA, dA⟩
  walk_at "p_enter"
  k_with "method" => (refine' method_g ?mF DA PySem.F.slot_dict_values ?mt ?_; (case mF => k_asm); (case mt => kernel_rfl))
  k_with "values" => (refine' callValues_g ?mF ?mN DA loA ?_; (case mF => k_asm); (case mN => k_asm); intro vw h' hv' F' N')
  k_steps
  all_goals (try k_data)
  k_with_none
  rename Fr _ _ _ _ => F0
  rename News _ _ _ _ => N0
  rename Heap.IsValuesView _ _ _ => V0
  refine Stop.out ?_
  refine iter_values_gen [Str.ofString "calls", Str.ofString "nc"] (fun i u news => ∃ t, news = [] ∧ u (Str.ofString "nc") = some (.int (((cA.take i).map (·.2)).sum) t))
    rfl DA V0 F0 N0 ⟨_, rfl, rfl⟩ ?_ ?_
  · clear F0 N0 V0
    rintro I i k v u news₁ oI h tk hx ⟨t1, rfl, hu⟩ F2 N2 off
    obtain ⟨e, te, rfl, hce⟩ := flat_at fA hx
    replace F2 : Fr g _ h _ := Mine.Fr.carry F2 (k := Str.ofString "nc") (by rw [if_pos rfl]; exact hu)
    replace N2 : News g _ h _ := N2
    k_steps
    rename Fr _ _ _ _ => F4
    rename News _ _ _ _ => N4
    have hsum : ((cA.take i).map (·.2)).sum + e = ((cA.take (i + 1)).map (·.2)).sum := by
      rw [List.take_add_one, hce, List.map_append, List.sum_append]
      simp
    rw [hsum] at F4
    refine GEnd.intro [] F4 N4 (by k_mem) (List.forall_mem_nil _) (List.forall_mem_nil _) (fun y hy => by rw [if_neg (neS hy rfl), if_neg (neS hy rfl), if_neg (neS hy rfl), if_neg (neT hy)]) ⟨_, rfl, by exact if_pos rfl⟩
  · rintro u news₁ h tk ⟨t1, rfl, hu⟩ F1 N1
    have hAl : (cA.take kvA.length) = cA := by rw [List.take_of_length_le]; have := fA.length; rw [kdpD_length] at this; omega
    rw [hAl] at hu
    replace F1 : Fr g _ h _ := Mine.Fr.carry F1 (k := Str.ofString "nc") (by rw [if_pos rfl]; exact hu)
    replace N1 : News g _ h _ := N1
    k_steps
    exact hret _ [] _ _ F1.keep (List.forall_mem_nil _) ⟨_, rfl, rfl⟩

end Mine
end
section
-- StatsZ
open PySem PySem.W PyProof.Rows PySem.Calls PySem.Spec PyProof.V
set_option Elab.async false
set_option maxRecDepth 100000
set_option maxHeartbeats 8000000
namespace Mine
theorem anew_StatsZ : True ∧ True := by
  k_with_none
  first | (walk1; done) | exact ⟨trivial, trivial⟩
theorem fill_StatsZ : (PySem.Challenge.rw_zn0017_01, hd.heap_39) = (PySem.Challenge.rw_zn0017_01, hd.heap_39) := by
  k_fill
  rfl
local macro_rules | `(tactic| walk_at "call ref") => `(tactic| k_extra "call")
def B5 (o : Obj) (a b c d : Int) (D : Addr) : Prop := ∃ t1 t2 t3 t4, o = { cls := Value.type "tuple", data := Data.seq [Value.int a t1, Value.int b t2, Value.int c t3, Value.int d t4, Value.ref D].toArray }
theorem Dct.keep {prog : Program} {w : World} {g g' : Heap} {a : Addr} {c : List (Str × Int)} (x : Dct prog w g a c) (k : ∀ b o, g.get? b = some o → g'.get? b = some o) : Dct prog w g' a c := ⟨x.1, x.2.choose, k _ _ x.2.choose_spec.1, x.2.choose_spec.2⟩
theorem stats_spec (prog : Program) (w : World) (g : Heap) (p q : Addr) (op oq : Obj) (a b c d a' b' c' d' : Int) (D D' : Addr) (cA cB : List (Str × Int)) (hp : g.get? p = some op) (hq : g.get? q = some oq) (hop : B5 op a b c d D) (hoq : B5 oq a' b' c' d' D')
    (hA : Dct prog w g D cA) (hB : Dct prog w g D' cB) (hl : cA.length + cB.length ≤ 1000) :
    PC prog w 70 6 400 g [.ref p, .ref q] (fun r tl => ∃ T oT R oR, r = .ref T ∧ tl = [(T, oT), (R, oR)] ∧ B5 oT (a' + a) (b' + b) (c' + c) (d' + d) R ∧ (R == sysModules) = false ∧ SD prog w oR (addC cA cB)) := by
  intro mean mg mb dp un gd outer A₀ base s Q E hs' HB B hdp hun hret
  obtain ⟨t1, t2, t3, t4, rfl⟩ := hop
  obtain ⟨t1', t2', t3', t4', rfl⟩ := hoq
  have hp1 : g.IsTuple p #[Value.int a t1, Value.int b t2, Value.int c t3, Value.int d t4, Value.ref D] := ⟨_, hp, rfl, _, rfl⟩
  have hq1 : g.IsTuple q #[Value.int a' t1', Value.int b' t2', Value.int c' t3', Value.int d' t4', Value.ref D'] := ⟨_, hq, rfl, _, rfl⟩
  walk_at "p_enter"
  k_with "call" => (k_here; (with_reducible show wpAny _ _ (call (Value.ref 77) _) _ _ _); k_dflt (refine' PC.use (callers_spec _ _ _ _ _ cA cB ?dA ?dB hl) rfl rfl rfl rfl ?k1 ?k2 ?k3 ?k4 ?k5 ?k6 ?k7 ?k8 ?_; (case k1 => k_asm); (case k2 => k_asm); (case k3 => k_asm); (case k4 => k_asm); (case k5 => k_asm); (case k6 => k_asm); (case k7 => ktr_room); (case k8 => ktr_units); (case dA => exact Dct.keep hA (Fr.keep (by k_asm))); (case dB => exact Dct.keep hB (Fr.keep (by k_asm))); k_whole); intro r' tl' h' tk' F' N' l1 hp'; obtain ⟨R, oR, hr', ht', lo', sd'⟩ := hp'; subst hr' ht'; (try simp only [List.cons_append, List.nil_append, List.append_nil] at N'); (try k_sweep); (try dsimp only); (try k_fold))
  k_steps
  all_goals (try k_data)
  rename Fr _ _ _ _ => F4
  rename News _ _ _ _ => N4
  exact hret _ [_, _] _ _ F4.keep (left_of N4) ⟨_, _, R, oR, rfl, rfl, ⟨_, _, _, _, rfl⟩, lo', sd'⟩

end Mine
end
section
-- SpotZ
open PySem PySem.W PyProof.Rows PySem.Calls PySem.Spec PyProof.V
set_option Elab.async false
set_option maxRecDepth 100000
set_option maxHeartbeats 8000000
namespace Mine
theorem anew_SpotZ : True ∧ True := by
  k_with_none
  first | (walk1; done) | exact ⟨trivial, trivial⟩
theorem fill_SpotZ : (PySem.Challenge.rw_zn0017_01, hd.heap_39) = (PySem.Challenge.rw_zn0017_01, hd.heap_39) := by
  k_fill
  rfl
section
variable {prog : Program} {w : World} {A : Around} {E : Value → Shared → Prop} {s : Shared}
theorem adjust_upto (a n : Nat) (ha : a ≤ n) : Builtin.Slice.sliceAdjust none (some (a : Int)) 1 (n : Int) = (0, (a : Int)) := by
  unfold Builtin.Slice.sliceAdjust
  have h1 : ¬ ((1 : Int) < 0) := by omega
  have h2 : ¬ ((a : Int) < 0) := by omega
  simp only [h1, h2, if_false]
  congr 1
  omega
theorem places_upto (a : Nat) : Builtin.Slice.slicePlaces 0 (a : Int) 1 = a := by
  unfold Builtin.Slice.slicePlaces
  have h1 : (1 : Int) > 0 := by omega
  simp only [h1, if_true, Int.ediv_one]
  split <;> omega
theorem sliceApplied_upto {sl : Addr} {a n : Nat} {u : Tok} {Q : Int × Int × Nat → Shared → Prop} (hs : s.heap.IsSliceOf sl .none (.int a u) .none) (ha : a ≤ n) (h : Q (0, 1, a) s) :
    wpAny (model prog w) A (Builtin.Slice.sliceApplied (.ref sl) (pure (n : Int))) Q E s := by
  obtain ⟨os, hos, hcs, hds⟩ := id hs
  unfold Builtin.Slice.sliceApplied Builtin.Slice.sliceFields
  refine wpAny_bind (wpAny_bind (wpAny_field hos hds (x := .none) rfl (wpAny_bind (wpAny_field hos hds (x := .int a u) rfl (wpAny_bind (wpAny_field hos hds (x := .none) rfl (wpAny_pure ?_)))))))
  refine wpAny_bind (slicePart_none ?_)
  show wpAny _ _ (if ((1 : Int) == 0) = true then _ else _) _ _ s
  rw [if_neg (by decide)]
  refine wpAny_bind (slicePart_none (wpAny_bind (slicePart_int (wpAny_bind (wpAny_pure ?_)))))
  show wpAny _ _ (match Builtin.Slice.sliceAdjust none (some (a : Int)) 1 (n : Int) with | (lo, hi) => pure (lo, (1 : Int), Builtin.Slice.slicePlaces lo hi 1)) _ _ s
  rw [adjust_upto a n ha]
  show wpAny _ _ (pure ((0 : Int), (1 : Int), Builtin.Slice.slicePlaces 0 (a : Int) 1)) _ _ s
  rw [places_upto a]
  exact wpAny_pure h
theorem getItem_tuple_upto {t sl : Addr} {items : Array Value} {ys : List Value} {a : Nat} {u : Tok} {Q : Value → Shared → Prop} (ht : IsTup s.heap t items) (hs : s.heap.IsSliceOf sl .none (.int a u) .none) (ha : a < items.size)
    (hy : ((List.range a).filterMap fun (k : Nat) => items[((0 : Int) + (k : Int) * 1).toNat]?) = ys) (hz : ys.length ≤ 1000)
    (h : Q (.ref s.heap.objs.size) { s with heap := s.heap.push { cls := .type "tuple", data := .seq ys.toArray } }) : wpAny (model prog w) A (getItem (.ref t) (.ref sl)) Q E s := by
  have hdrop : sizeOk (.seq ys.toArray) := by
    show ys.toArray.size ≤ sizeLine
    rw [List.size_toArray, sizeLine_eq]; omega
  obtain ⟨os, hos, hcs, hds⟩ := id hs
  have hTs : s.TypeIs (.ref sl) "slice" := ⟨os, hos, hcs⟩
  unfold getItem
  try with_reducible refine wpAny_holding ?_
  first | refine wpAny_bind (wpAny_pure ?_) | skip
  refine wpAny_bind (wpAny_sequenceKey ht.typeIs (by decide) ?_)
  refine wpAny_bind (wpAny_callSpecial?_slot (name := Str.ofString "__getitem__") ht.typeIs PyProof.Rows.slot_tuple_getitem
    (wpAny_call_entry PyProof.Rows.slot_tuple_getitem ht.typeIs PyProof.Rows.entry_tuple_getitem ?_ (PyProof.Rows.args_tuple_getitem _ _)))
  show wpAny _ _ (Builtin.Tuple.tupleItemsOf (.ref t) >>= _) _ _ s
  refine wpAny_bind (tupleItemsOf_ ht ?_)
  refine wpAny_bind (wpAny_typeOf hTs ?_)
  rw [if_pos (by decide)]
  refine wpAny_bind (sliceApplied_upto hs (Nat.le_of_lt ha) ?_)
  have hno : ¬ (((0 : Int) == 0 && (1 : Int) == 1 && a == items.size) = true) := by
    have : (a == items.size) = false := by rw [beq_eq_false_iff_ne]; omega
    rw [this]; simp
  show wpAny _ _ (if ((0 : Int) == 0 && (1 : Int) == 1 && a == items.size) = true then _ else _) _ _ s
  rw [if_neg hno, hy]
  first
    | exact wpAny_bind (m := Builtin.Tuple.tupleExact _) (wpAny_newObj_type (wpAny_pure ⟨_, rfl, wpAny_pure h⟩) hdrop)
    | exact wpAny_bind (m := Builtin.Tuple.tupleExact _) (wpAny_newObj_type (wpAny_bind (wpAny_pure (wpAny_pure ⟨_, rfl, wpAny_pure h⟩))) hdrop)
    | exact wpAny_bind (wpAny_bind (m := Builtin.Tuple.tupleExact _) (wpAny_newObj_type (wpAny_pure (wpAny_pure ⟨_, rfl, wpAny_pure h⟩)) hdrop))
    | exact wpAny_bind (wpAny_bind (m := Builtin.Tuple.tupleExact _) (wpAny_newObj_type (wpAny_pure ⟨_, rfl, wpAny_pure h⟩) hdrop))
theorem slice_tuple_upto {h₀ : Heap} {L : Addr} {m : Str → Option Value} {news : List (Addr × Obj)} {value slice : Expr} {t : Addr} {items : Array Value} {ys : List Value} {a : Nat} {u : Tok} {Q : Value → Shared → Prop}
    (F : Fr h₀ L s.heap m) (N : News h₀ L s.heap news) (ht : IsTup s.heap t items) (ha : a < items.size) (hy : ((List.range a).filterMap fun (k : Nat) => items[((0 : Int) + (k : Int) * 1).toNat]?) = ys) (hz : ys.length ≤ 1000)
    (h : ∀ T h', Fr h₀ L h' m → News h₀ L h' ((T, { cls := .type "tuple", data := .seq ys.toArray }) :: news) → (∀ p ∈ news, p.1 < T) → Q (.ref T) { s with heap := h' })
    (hs : subscripted slice false (.ref t) (.ref s.heap.objs.size) = operate [.ref s.heap.objs.size, .ref t] (getItem (.ref t) (.ref s.heap.objs.size)) := by with_unfolding_all rfl)
    (hg : ∀ r, letTemporaryGo value (.ref t) r = pure () := by intro _; with_unfolding_all rfl) :
    wpAny (model prog w) A (subscriptTail value slice (.ref t) (.ref s.heap.objs.size)) Q E { s with heap := s.heap.push { cls := .type "slice", data := .fields #[.none, .int a u, .none] } } := by
  have ht' : IsTup (s.heap.push { cls := .type "slice", data := .fields #[.none, .int a u, .none] }) t items := ht.keeps fun _ _ e => Heap.get?_push_of_some _ e
  refine subscriptTail_ops (s := { s with heap := s.heap.push { cls := .type "slice", data := .fields #[.none, .int a u, .none] } }) ht'.typeIs PyProof.Rows.slot_tuple_getitem.lookup
    (getItem_tuple_upto ht' (Heap.IsSliceOf.new ..) ha hy hz ?_) hs hg
  have N1 := News.push (F.push { cls := .type "slice", data := .fields #[.none, .int a u, .none] }) (N.grown fun _ _ e => Heap.get?_push_of_some _ e) { cls := .type "tuple", data := .seq ys.toArray }
  rw [Heap.size_push] at N1
  show Q (.ref (s.heap.push _).objs.size) _
  rw [Heap.size_push]
  exact h _ _ ((F.push _).push _) N1 fun p hp => Nat.lt_succ_of_lt (Heap.lt_size (N p hp).1)
end
local macro_rules | `(tactic| walk_at "subscriptTail Name Slice ref ref") => `(tactic| k_extra "slice")
theorem mod_tuple_g {prog : Program} {w : World} {A : Around} {E : Value → Shared → Prop} {s : Shared} {X X' T : PySem.Str} {t : Tok} {Q : Value → Shared → Prop} {b : Addr} {its : Array Value} (ht : IsTup s.heap b its) (hX : X = X')
    (hm : Meets (Builtin.«str.__mod__» ⟨[.str X' t, .ref b], []⟩) (fun _ R s => IsTup s.heap b its ∧ ∀ t' k, R (.ok (.ret (.str T t'))) { s with toks := k }))
    (h : ∀ t' k, Q (.str T t') { s with toks := k }) : wpAny (model prog w) A (binaryOp .Mod (.str X t) (.ref b)) Q E s := by
  subst hX
  have hT : s.TypeIs (.ref b) "tuple" := by
    obtain ⟨o, ho, hc, _⟩ := ht
    exact ⟨o, ho, hc⟩
  exact KPt.bin_left (T := "str") (U := "tuple") (op := .Mod) (by decide) (typeIs_str s X t) hT F.fills_str_mod KPt.fills_tuple F.slot_str_mod
    (call_meets F.slot_str_mod (typeIs_str s X t) F.entry_str_mod (F.args_str_mod_2 _ _) hm ⟨ht, fun t' k => ⟨(fun e => nomatch e), h t' k⟩⟩)
def spot (k : Int) : Str := Str.ofString "row" ++ Str.ofString ":" ++ Str.ofString (toString k) ++ Str.ofString "(" ++ Str.ofString "spot" ++ Str.ofString ")"
theorem std_spec (prog : Program) (w : World) (g : Heap) (p : Addr) (k : Int) (t1 t2 t3 : Tok) (hp : g.get? p = some { cls := Value.type "tuple", data := Data.seq [Value.str (Str.ofString "row") t1, Value.int k t2, Value.str (Str.ofString "spot") t3].toArray }) (h0 : 0 ≤ k) (h7 : k < 7) :
    PC prog w 63 3 200 g [.ref p] (fun r tl => ∃ t', r = .str (spot k) t' ∧ tl = []) := by
  intro mean mg mb dp un gd outer A₀ base s Q E hs' HB B hdp hun hret
  have hp1 : IsTup g p #[Value.str (Str.ofString "row") t1, Value.int k t2, Value.str (Str.ofString "spot") t3] := ⟨_, hp, rfl, _, rfl⟩
  walk_at "p_enter"
  k_with "slice" => (k_dflt (refine' slice_tuple_upto (s := ⟨_, _, _, _, _⟩) (a := 2) (ys := [Value.str (Str.ofString "row") t1, Value.int k t2]) ?wF ?wN (hp1.keeps (Fr.keep ?wG)) (Nat.le_of_ble_eq_true rfl) rfl (Nat.le_of_ble_eq_true rfl) ?_ ?ws ?wt; (case wF => k_asm); (case wN => k_asm); (case wG => k_asm); (case ws => with_unfolding_all rfl); (case wt => kmk_pure)); intro T' h' F' N' l1; (try k_lt l1); (try k_sweep))
  k_steps
  all_goals (try k_data)
  · rename (_ && _) = true => ha
    rw [show (Str.ofString "row" == Str.ofString "~") = false by decide +kernel, Bool.false_and] at ha
    cases ha
  rename Fr _ _ _ _ => F1
  have ht1 := hp1.keeps F1.keep
  refine' mod_tuple_g ht1 ?kptF ?kptm ?_
  (case kptF => kpt_eq)
  (case kptm => kpt_run)
  intro _ _
  k_steps
  exact hret _ [] _ _ F1.keep (List.forall_mem_nil _) ⟨_, rfl, rfl⟩
local macro_rules | `(tactic| walk_at "call ref") => `(tactic| k_extra "call")
theorem spot_spec (prog : Program) (w : World) (g : Heap) (k : Int) (t : Tok) (h0 : 0 ≤ k) (h7 : k < 7) :
    PC prog w 127 6 400 g [.int k t] (fun r tl => ∃ t', r = .str (spot k) t' ∧ tl = []) := by
  intro mean mg mb dp un gd outer A₀ base s Q E hs' HB B hdp hun hret
  walk_at "p_enter"
  k_with "call" => (k_here; (with_reducible show wpAny _ _ (call (Value.ref 63) _) _ _ _); k_dflt (refine' PC.use (std_spec _ _ _ _ k _ _ _ ?dA h0 h7) rfl rfl rfl rfl ?k1 ?k2 ?k3 ?k4 ?k5 ?k6 ?k7 ?k8 ?_; (case k1 => k_asm); (case k2 => k_asm); (case k3 => k_asm); (case k4 => k_asm); (case k5 => k_asm); (case k6 => k_asm); (case k7 => ktr_room); (case k8 => ktr_units); (case dA => exact News.at (by k_asm) List.mem_cons_self); k_whole); intro r' tl' h' tk' F' N' l1 hp'; obtain ⟨t', hr', ht'⟩ := hp'; subst hr' ht'; (try simp only [List.nil_append] at N'); (try k_sweep); (try dsimp only); (try k_fold))
  k_steps
  all_goals (try k_data)
  rename Fr _ _ _ _ => F1
  exact hret _ [] _ _ F1.keep (List.forall_mem_nil _) ⟨_, rfl, rfl⟩

end Mine
end
section
-- StripZ
open PySem PySem.W PyProof.Rows PySem.Calls PySem.Spec PyProof.V
set_option Elab.async false
set_option maxRecDepth 100000
set_option maxHeartbeats 8000000
namespace Mine
theorem anew_StripZ : True ∧ True := by
  k_with_none
  first | (walk1; done) | exact ⟨trivial, trivial⟩
theorem fill_StripZ : (PySem.Challenge.rw_zn0017_01, hd.heap_39) = (PySem.Challenge.rw_zn0017_01, hd.heap_39) := by
  k_fill
  rfl
def tx (bs : List Bool) : Str := ⟨(bs.map fun b => if b then 120 else 32).toArray⟩
theorem tx_len (bs : List Bool) : (tx bs).length = bs.length := by
  show (tx bs).cps.size = _
  simp [tx]
theorem seven_any {α : Type} {l : List α} (h : l.length = 7) : ∃ a b c d e f g, l = [a, b, c, d, e, f, g] := by
  obtain ⟨a, r, rfl⟩ := List.exists_cons_of_length_eq_add_one h
  obtain ⟨b, r, rfl⟩ := List.exists_cons_of_length_eq_add_one (Nat.succ.inj h)
  obtain ⟨c, r, rfl⟩ := List.exists_cons_of_length_eq_add_one (Nat.succ.inj (Nat.succ.inj h))
  obtain ⟨d, r, rfl⟩ := List.exists_cons_of_length_eq_add_one (Nat.succ.inj (Nat.succ.inj (Nat.succ.inj h)))
  obtain ⟨e, r, rfl⟩ := List.exists_cons_of_length_eq_add_one (Nat.succ.inj (Nat.succ.inj (Nat.succ.inj (Nat.succ.inj h))))
  obtain ⟨f, r, rfl⟩ := List.exists_cons_of_length_eq_add_one (Nat.succ.inj (Nat.succ.inj (Nat.succ.inj (Nat.succ.inj (Nat.succ.inj h)))))
  obtain ⟨g, r, rfl⟩ := List.exists_cons_of_length_eq_add_one (Nat.succ.inj (Nat.succ.inj (Nat.succ.inj (Nat.succ.inj (Nat.succ.inj (Nat.succ.inj h))))))
  rw [List.eq_nil_of_length_eq_zero (Nat.succ.inj (Nat.succ.inj (Nat.succ.inj (Nat.succ.inj (Nat.succ.inj (Nat.succ.inj (Nat.succ.inj h)))))))]
  exact ⟨a, b, c, d, e, f, g, rfl⟩
theorem seven {bs : List Bool} (h : bs.length = 7) : ∃ a b c d e f g, bs = [a, b, c, d, e, f, g] := seven_any h
theorem item_tx7 : ∀ a b c d e f g : Bool, ∀ i : _root_.Fin 7, (Txt.item (tx [a, b, c, d, e, f, g]) (i.1 : Int) == Str.ofString " ") = !([a, b, c, d, e, f, g].getD i.1 true) := by decide +kernel
theorem item_tx {bs : List Bool} (h : bs.length = 7) {i : Nat} (hi : i < 7) : (Txt.item (tx bs) (i : Int) == Str.ofString " ") = !(bs.getD i true) := by
  obtain ⟨a, b, c, d, e, f, g, rfl⟩ := seven h
  exact item_tx7 a b c d e f g ⟨i, hi⟩
local macro_rules | `(tactic| walk_at "exec While") => `(tactic| k_extra "while")
local macro_rules | `(tactic| walk_at "subscriptTail") => `(tactic| k_extra "item")
local macro_rules | `(tactic| walk_at "subscriptTail Name Slice str ref") => `(tactic| k_extra "slice")
theorem strip_spec (prog : Program) (w : World) (g : Heap) (bs : List Bool) (t u : Tok) (l r : Nat) (h7 : bs.length = 7) (hl : ∀ i, i < l → bs.getD i true = false) (hl2 : bs.getD l true = true) (hl6 : l + r ≤ 6) (hr : ∀ i, i < r → bs.getD (6 - i) true = false) (hr2 : bs.getD (6 - r) true = true) :
    PCX prog w 56 3 200 g [.str (tx bs) t, .int 7 u] (fun res tl => ∃ t', res = .str (Txt.slice (tx bs) (some (l : Int)) (some (7 - (r : Int)))) t' ∧ tl = []) := by
  intro mean mg mb hx dp un gd outer A₀ base s Q E hs' HB B hdp hun hret
  have hlen := tx_len bs
  walk_at "p_enter"
  k_with "while" => (k_here; refine Stop.out ?_)
  k_steps
  all_goals (try k_data)
  k_with_none
  rename Fr _ _ _ _ => F1
  rename News _ _ _ _ => N1
  refine Stop.out ?_
  refine While_inv (fun n m news => ∃ (i : Nat) (p q : Int) (t1 t2 : Tok), n = 7 - i ∧ i ≤ l ∧ p = (i : Int) ∧ q = 7 - (i : Int) ∧ news = [] ∧ m (Str.ofString "lpos") = some (Value.int p t1) ∧ m (Str.ofString "amount") = some (Value.int q t2) ∧ m (Str.ofString "s") = some (Value.str (tx bs) t)) F1 N1 ⟨0, 0, 7, _, _, rfl, Nat.zero_le _, rfl, rfl, rfl, rfl, rfl, rfl⟩ ?_
  rintro n m news h1 tk1 F2 N2 ⟨i, p, q, t1, t2, rfl, hil, rfl, rfl, rfl, e1, e2, e3⟩
  replace F2 := Mine.Fr.carry (Mine.Fr.carry (Mine.Fr.carry F2 e1) ((if_neg (by decide)).trans e2)) ((if_neg (by decide)).trans ((if_neg (by decide)).trans e3))
  clear F1 N1
  k_with "item" => ((with_reducible show wpAny _ _ (subscriptTail _ _ (Value.str _ _) (Value.int _ _)) _ _ _); (refine KXi.item (n := 7) (hlen.trans h7) (by omega) (by omega) (by decide) ?_); intro _)
  k_with "while" => (k_here; refine Stop.out ?_)
  k_steps
  all_goals (try k_data)
  k_with_none
  · rename (_ == _) = true => hc
    rename Fr _ _ _ _ => F4
    rename News _ _ _ _ => N4
    have hi7 : i < 7 := by omega
    rw [item_tx h7 hi7] at hc
    have hil2 : i < l := by
      rcases Nat.lt_or_ge i l with h | h
      · exact h
      · have : i = l := by omega
        rw [this, hl2] at hc; cases hc
    exact WhileStep.intro (n' := 7 - (i + 1)) F4 N4 (by omega) ⟨i + 1, _, _, _, _, rfl, hil2, by omega, by omega, rfl, if_neg (by decide), if_pos rfl, rfl⟩
  · rename (_ == _) = false => hc
    rename Fr _ _ _ _ => F4
    rename News _ _ _ _ => N4
    have hi7 : i < 7 := by omega
    rw [item_tx h7 hi7] at hc
    have hil2 : i = l := by
      rcases Nat.lt_or_ge i l with h | h
      · rw [hl i h] at hc; cases hc
      · omega
    subst hil2
    refine Stop.out ?_
    refine While_inv (fun n m news => ∃ (j : Nat) (p q : Int) (t1 t2 t3 : Tok), n = 7 - j ∧ j ≤ r ∧ p = 6 - (j : Int) ∧ q = 7 - (i : Int) - (j : Int) ∧ news = [] ∧ m (Str.ofString "rpos") = some (Value.int p t1) ∧ m (Str.ofString "amount") = some (Value.int q t2) ∧ m (Str.ofString "s") = some (Value.str (tx bs) t) ∧ m (Str.ofString "lpos") = some (Value.int (i : Int) t3)) F4 N4 ⟨0, _, _, _, _, _, rfl, Nat.zero_le _, ?_, ?_, rfl, rfl, rfl, rfl, rfl⟩ ?_
    · omega
    · omega
    clear e1 e2 e3 F4 N4
    rintro n m news h1 tk1 F2 N2 ⟨j, p, q, t1, t2, t3, rfl, hjr, rfl, rfl, rfl, e1, e2, e3, e4⟩
    replace F2 := Mine.Fr.carry (Mine.Fr.carry (Mine.Fr.carry (Mine.Fr.carry F2 e1) ((if_neg (by decide)).trans e2)) ((if_neg (by decide)).trans ((if_neg (by decide)).trans e3))) ((if_neg (by decide)).trans ((if_neg (by decide)).trans ((if_neg (by decide)).trans e4)))
    k_with "item" => ((with_reducible show wpAny _ _ (subscriptTail _ _ (Value.str _ _) (Value.int _ _)) _ _ _); (refine KXi.item (n := 7) (hlen.trans h7) (by omega) (by omega) (by decide) ?_); intro _)
    k_with "slice" => (k_here; refine Stop.out ?_)
    k_steps
    all_goals (try k_data)
    k_with_none
    · rename (_ == _) = true => hc2
      rename Fr _ _ _ _ => F4
      rename News _ _ _ _ => N4
      have e6 : (6 - (j : Int)) = ((6 - j : Nat) : Int) := by omega
      rw [e6, item_tx h7 (by omega)] at hc2
      have hj2 : j < r := by
        rcases Nat.lt_or_ge j r with h | h
        · exact h
        · have : j = r := by omega
          rw [this, hr2] at hc2; cases hc2
      exact WhileStep.intro (n' := 7 - (j + 1)) F4 N4 (by omega) ⟨j + 1, _, _, _, _, _, rfl, hj2, by omega, by omega, rfl, (if_neg (by decide)).trans (if_pos rfl), if_pos rfl, rfl, rfl⟩
    · rename (_ == _) = false => hc2
      rename Fr _ _ _ _ => F4
      rename News _ _ _ _ => N4
      have e6 : (6 - (j : Int)) = ((6 - j : Nat) : Int) := by omega
      rw [e6, item_tx h7 (by omega)] at hc2
      have hj2 : j = r := by
        rcases Nat.lt_or_ge j r with h | h
        · rw [hr j h] at hc2; cases hc2
        · omega
      subst hj2
      refine Stop.out ?_
      have hsz : (tx bs).length ≤ sizeLine := by rw [hlen, h7, sizeLine_eq]; omega
      have e7 : (6 - (j : Int) + 1) = 7 - (j : Int) := by omega
      rw [e7]
      refine slice_str_ss (s := ⟨_, _, _, _, _⟩) F4 (fun h' t' k F5 => ?_) (hsz := hsz)
      k_steps
      exact hret _ [] _ _ F5.keep (List.forall_mem_nil _) ⟨_, rfl, rfl⟩
    all_goals (exfalso; omega)
  all_goals (exfalso; omega)

end Mine
end
section
-- RaiseZ
open PySem PySem.W PyProof.Rows PySem.Calls PySem.Spec PyProof.V
set_option Elab.async false
set_option maxRecDepth 100000
set_option maxHeartbeats 8000000
namespace Mine
theorem anew_RaiseZ : True ∧ True := by
  k_with_none
  first | (walk1; done) | exact ⟨trivial, trivial⟩
theorem fill_RaiseZ : (PySem.Challenge.rw_zn0017_01, hd.heap_39) = (PySem.Challenge.rw_zn0017_01, hd.heap_39) := by
  k_fill
  rfl
theorem item_raises {prog : Program} {w : World} {A : Around} {E : Value → Shared → Prop} {s : Shared} {value slice : PySem.Expr} {x : PySem.Str} {t u : Tok} {i : Int} {Q : Value → Shared → Prop} (hh : A.handled = none) (h0 : (x.length : Int) ≤ i) (h1 : i < 1000)
    (h : ∀ h' tk e, Heap.NewExc s.heap h' e "IndexError" → E (.ref e) { s with heap := h', toks := tk })
    (hs : subscripted slice false (.str x t) (.int i u) = operate [.str x t, .int i u] (getItem (.str x t) (.int i u)) := by with_unfolding_all rfl)
    (ht : ∀ r, letTemporaryGo value (.str x t) r = pure () := by intro _; with_unfolding_all rfl) :
    wpAny (model prog w) A (subscriptTail value slice (.str x t) (.int i u)) Q E s := by
  have hn : (seqIndex? i x.length).bind (x.cps[·]?) = none := by
    have : seqIndex? i x.length = none := by
      unfold seqIndex?
      rw [if_neg (show ¬ i < 0 by omega)]
      show (if (decide (0 ≤ i) && decide (i < x.length)) = true then some i.toNat else none) = none
      rw [decide_eq_false (show ¬ i < x.length by omega), Bool.and_false]; rfl
    rw [this]; rfl
  have g : wpAny (model prog w) A (getItem (.str x t) (.int i u)) Q E s :=
    getItem_meets (typeIs_str s x t) (by decide) F.slot_str_getitem F.entry_str_getitem (F.args_str_getitem_2 _ _) (raises_str_getitem x i t u (by simp; omega) hn) ⟨hh, h⟩
  exact tail_of_ItemOn ⟨"str", _, F.slot_str_getitem.lookup, typeIs_str _ _ _, g⟩ hs ht
def blank7 : List Bool := [false, false, false, false, false, false, false]
/-- the contract of a call that raises -/
def PCR (prog : Program) (w : World) (f : Addr) (nd nu : Nat) (g : Heap) (vs : List Value) (cls : String) : Prop :=
  ∀ (mean : ExcName → Option Value) (mg mb : Str → Option Value) (dp un : Nat) (gd : Option (List Code)) (outer : List Env) (A₀ : Around) (base : Heap) (s : Shared) (Q E : Value → Shared → Prop),
    s.heap = g → Bs w mean mg mb g → Below A₀ base outer g → dp + nd < recursionLimit → un + nu < cLine →
    (∀ e h' tk', RaisedSN base g outer e (.type cls) [] h' → g.UpToSlots h' → E (.ref e) { s with heap := h', toks := tk' }) →
    wpAny (model prog w) (AT none dp un gd outer) (call (.ref f) vs) Q E s
local macro_rules | `(tactic| walk_at "exec While") => `(tactic| k_extra "while")
local macro_rules | `(tactic| walk_at "subscriptTail") => `(tactic| k_extra "item")
theorem item_blank : ∀ i : _root_.Fin 7, Txt.item (tx blank7) (i.1 : Int) = Str.ofString " " := by decide +kernel
local macro_rules | `(tactic| walk_at "exec While BoolOp") => `(tactic| k_extra "while")
theorem strip_raises (prog : Program) (w : World) (g : Heap) (t u : Tok) :
    PCR prog w 56 3 200 g [.str (tx blank7) t, .int 8 u] "IndexError" := by
  intro mean mg mb dp un gd outer A₀ base s Q E hs' HB B hdp hun hret
  have hlen : (tx blank7).length = 7 := by decide +kernel
  replace hret : Stop _ := hret
  walk_at "p_enter"
  k_with "while" => (k_here; refine Stop.out ?_)
  k_steps
  all_goals (try k_data)
  k_with_none
  rename Fr _ _ _ _ => F1
  rename News _ _ _ _ => N1
  refine Stop.out ?_
  refine' While_inv (hE := ?hE) (fun n m news => ∃ (i : Nat) (p q : Int) (t1 t2 : Tok), n = 8 - i ∧ i ≤ 7 ∧ p = (i : Int) ∧ q = 8 - (i : Int) ∧ news = [] ∧ m (Str.ofString "lpos") = some (Value.int p t1) ∧ m (Str.ofString "amount") = some (Value.int q t2) ∧ m (Str.ofString "s") = some (Value.str (tx blank7) t)) F1 N1 ⟨0, 0, 8, _, _, rfl, by decide, rfl, rfl, rfl, rfl, rfl, rfl⟩ ?_
  (case hE => first | passes_own | with_unfolding_all passes_own)
  rintro n m news h1 tk1 F2 N2 ⟨i, p, q, t1, t2, rfl, hil, hp, hq, rfl, e1, e2, e3⟩
  replace F2 := Mine.Fr.carry (Mine.Fr.carry (Mine.Fr.carry F2 e1) ((if_neg (by decide)).trans e2)) ((if_neg (by decide)).trans ((if_neg (by decide)).trans e3))
  clear F1 N1 e1 e2 e3
  rcases Nat.lt_or_ge i 7 with hlt | hge
  · subst hp hq
    have hit : Txt.item (tx blank7) (i : Int) = Str.ofString " " := item_blank ⟨i, hlt⟩
    k_with "item" => ((with_reducible show wpAny _ _ (subscriptTail _ _ (Value.str _ _) (Value.int _ _)) _ _ _); (refine KXi.item (n := 7) hlen (by omega) (by omega) (by decide) ?_); intro _; rw [hit])
    k_steps
    all_goals (try k_data)
    k_with_none
    rename Fr _ _ _ _ => F4
    rename News _ _ _ _ => N4
    exact WhileStep.intro (n' := 8 - (i + 1)) F4 N4 (by omega) ⟨i + 1, _, _, _, _, rfl, hlt, by omega, by omega, rfl, if_neg (by decide), if_pos rfl, rfl⟩
  · obtain rfl : i = 7 := Nat.le_antisymm hil hge
    have hp' : p = 7 := hp
    have hq' : q = 1 := hq
    subst hp' hq'
    clear hp hq
    k_with_none
    k_steps
    all_goals (try k_data)
    · rename Fr _ _ _ _ => F1
      rename News _ _ _ _ => N1
      rename Heap.NewExc _ _ _ _ => hx1
      refine leave_newS (A := AT none dp un gd outer) ⟨rfl, Below.stays B, Below.frames B⟩ hx1 F1 N1 (fun h' R _ U => ?_)
      exact Stop.out hret _ _ _ R U
    all_goals (exfalso; omega)
theorem strip_blank (prog : Program) (w : World) (g : Heap) (t u : Tok) :
    PCX prog w 56 3 200 g [.str (tx blank7) t, .int 7 u] (fun r tl => ∃ t', r = .str (Str.ofString "") t' ∧ tl = []) := by
  intro mean mg mb hx dp un gd outer A₀ base s Q E hs' HB B hdp hun hret
  have hlen : (tx blank7).length = 7 := by decide +kernel
  replace hret : Stop _ := hret
  walk_at "p_enter"
  k_with "while" => (k_here; refine Stop.out ?_)
  k_steps
  all_goals (try k_data)
  k_with_none
  rename Fr _ _ _ _ => F1
  rename News _ _ _ _ => N1
  refine Stop.out ?_
  refine' While_inv (hE := ?hE) (fun n m news => ∃ (i : Nat) (p q : Int) (t1 t2 : Tok), n = 7 - i ∧ i ≤ 7 ∧ p = (i : Int) ∧ q = 7 - (i : Int) ∧ news = [] ∧ m (Str.ofString "lpos") = some (Value.int p t1) ∧ m (Str.ofString "amount") = some (Value.int q t2) ∧ m (Str.ofString "s") = some (Value.str (tx blank7) t)) F1 N1 ⟨0, 0, 7, _, _, rfl, by decide, rfl, rfl, rfl, rfl, rfl, rfl⟩ ?_
  (case hE => first | passes_own | with_unfolding_all passes_own)
  rintro n m news h1 tk1 F2 N2 ⟨i, p, q, t1, t2, rfl, hil, hp, hq, rfl, e1, e2, e3⟩
  replace F2 := Mine.Fr.carry (Mine.Fr.carry (Mine.Fr.carry F2 e1) ((if_neg (by decide)).trans e2)) ((if_neg (by decide)).trans ((if_neg (by decide)).trans e3))
  clear F1 N1 e1 e2 e3
  rcases Nat.lt_or_ge i 7 with hlt | hge
  · subst hp hq
    have hit : Txt.item (tx blank7) (i : Int) = Str.ofString " " := item_blank ⟨i, hlt⟩
    k_with "item" => ((with_reducible show wpAny _ _ (subscriptTail _ _ (Value.str _ _) (Value.int _ _)) _ _ _); (refine KXi.item (n := 7) hlen (by omega) (by omega) (by decide) ?_); intro _; rw [hit])
    k_steps
    all_goals (try k_data)
    k_with_none
    rename Fr _ _ _ _ => F4
    rename News _ _ _ _ => N4
    exact WhileStep.intro (n' := 7 - (i + 1)) F4 N4 (by omega) ⟨i + 1, _, _, _, _, rfl, hlt, by omega, by omega, rfl, if_neg (by decide), if_pos rfl, rfl⟩
  · obtain rfl : i = 7 := Nat.le_antisymm hil hge
    have hp' : p = 7 := hp
    have hq' : q = 0 := hq
    subst hp' hq'
    clear hp hq
    k_with_none
    k_steps
    all_goals (try k_data)
    rename Fr _ _ _ _ => F4
    exact Stop.out hret _ [] _ _ F4.keep (List.forall_mem_nil _) ⟨_, congrArg (fun z => Value.str z _) (by decide +kernel), rfl⟩
/-- the contract of a call inside which something is raised and caught: the frames below turn -/
def PCU (prog : Program) (w : World) (f : Addr) (nd nu : Nat) (g : Heap) (vs : List Value) (post : Value → List (Addr × Obj) → Prop) : Prop :=
  ∀ (mean : ExcName → Option Value) (mg mb : Str → Option Value) (dp un : Nat) (gd : Option (List Code)) (outer : List Env) (A₀ : Around) (base : Heap) (s : Shared) (Q E : Value → Shared → Prop),
    s.heap = g → Bs w mean mg mb g → Bs w mean mg mb base → KtsDicts (outer.filterMap (·.frame)) g → Below A₀ base outer g → dp + nd < recursionLimit → un + nu < cLine →
    (∀ r tl h' tk' g', KtsTurn (outer.filterMap (·.frame)) g g' → g'.StaysIn h' → Left g' h' tl → post r tl → Q r { s with heap := h', toks := tk' }) →
    wpAny (model prog w) (AT none dp un gd outer) (call (.ref f) vs) Q E s
section
variable {w : World} {A : Around} {E : Value → Shared → Prop} {s : Shared} {base : Heap} {mg mb : Str → Option Value} {mean : ExcName → Option Value} {prog : Program}
variable {A₀ : Around} {h₀ : Heap} {L : Addr} {m : Str → Option Value} {news : List (Addr × Obj)} {env : Env} {outer : List Env} {f : Addr} {nd nu : Nat} {vs : List Value} {post : Value → List (Addr × Obj) → Prop} {Q : Value → Shared → Prop}
theorem PCX.useB (C : PCX prog w f nd nu s.heap vs post) (hA : A.frames = some (env :: outer)) (hf : env.frame = some L) (hk : env.scope.kind = .function)
    (B : Below A₀ base outer h₀) (F : Fr h₀ L s.heap m) (N : News h₀ L s.heap news) (X : (hd.heap_39 w.params).In h₀)
    (T : Top hd.view_39 (looseW hd.view_39 [Str.ofString "ONE_THIRD", Str.ofString "ONE_SIXTH", Str.ofString "TWO_THIRD"]) mean mg mb h₀)
    (V : LooseAre [(Str.ofString "ONE_THIRD", WData.float 4599676419421066581), (Str.ofString "ONE_SIXTH", WData.float 4595172819793696085), (Str.ofString "TWO_THIRD", WData.float 4604180019048437077)] mg base)
    (hdp : A.depth + nd < recursionLimit) (hun : A.units + nu < cLine)
    (h : ∀ r tl h' tk', Fr h₀ L h' m → News h₀ L h' (tl ++ news) → (∀ p ∈ tl, ∀ q ∈ news, p.1 ≠ q.1) → post r tl → Q r { s with heap := h', toks := tk' }) :
    wpAny (model prog w) A (call (.ref f) vs) Q E s := C.use hA hf hk B F N X T (V.keeps B.stays) hdp hun h
theorem PCR.use {cls : String} (C : PCR prog w f nd nu s.heap vs cls) (hh : A.handled = none) (hA : A.frames = some (env :: outer)) (hf : env.frame = some L) (hk : env.scope.kind = .function)
    (B : Below A₀ base outer h₀) (F : Fr h₀ L s.heap m) (X : (hd.heap_39 w.params).In h₀)
    (T : Top hd.view_39 (looseW hd.view_39 [Str.ofString "ONE_THIRD", Str.ofString "ONE_SIXTH", Str.ofString "TWO_THIRD"]) mean mg mb h₀)
    (V : LooseAre [(Str.ofString "ONE_THIRD", WData.float 4599676419421066581), (Str.ofString "ONE_SIXTH", WData.float 4595172819793696085), (Str.ofString "TWO_THIRD", WData.float 4604180019048437077)] mg base)
    (hdp : A.depth + nd < recursionLimit) (hun : A.units + nu < cLine)
    (h : ∀ e h' tk', RaisedSN base s.heap (env :: outer) e (.type cls) [] h' → s.heap.UpToSlots h' → E (.ref e) { s with heap := h', toks := tk' }) :
    wpAny (model prog w) A (call (.ref f) vs) Q E s := by
  rw [around_eta hA hh]
  exact C mean mg mb _ _ _ _ A base s Q E rfl (bs_of F X T (V.keeps B.stays)) ((fun x => ⟨hA, Below.stays x, Below.frames x⟩) (pushX (env := env) B F hf hk)) hdp hun h
end
local macro_rules | `(tactic| walk_at "call ref") => `(tactic| k_extra "call")
theorem bare_spec (prog : Program) (w : World) (g : Heap) (t : Tok) :
    PCU prog w 134 6 400 g [.str (tx blank7) t] (fun r tl => r = .bool true ∧ tl = []) := by
  intro mean mg mb dp un gd outer A₀ base s Q E hs' HB HB0 D B hdp hun hret
  have hlen : (tx blank7).length = 7 := by decide +kernel
  have XB := Bs.X HB0
  have TB := Bs.T HB0
  have VB := Bs.V HB0
  clear HB0
  have K0 : Below (AT none dp un gd outer) base outer g := ⟨rfl, Below.stays B, Below.frames B⟩
  clear B
  walk_at "p_enter"
  k_with "call" => (k_here; refine Stop.out ?_)
  k_steps
  all_goals (try k_data)
  k_with_none
  unfold Stop
  rw [hlen]
  rename Fr _ _ _ _ => F1
  rename News _ _ _ _ => N1
  rename Frag.In _ g => Xg
  rename Top _ _ _ _ _ g => Tg
  (k_dflt (refine' PCR.use (strip_raises prog w _ _ _) rfl rfl rfl rfl K0 F1 Xg Tg VB ?k7 ?k8 ?_; (case k7 => ktr_room); (case k8 => ktr_units)))
  intro e h' tk' R U
  k_steps
  all_goals (try k_data)
  rw [hlen]
  rename Below _ _ _ _ => K1
  rename Fr _ _ _ _ => F2
  rename News _ _ _ _ => N2
  rename Frag.In _ _ => X2
  rename Top _ _ _ _ _ _ => T2
  rename KtsTurn _ _ _ => Tn
  (k_dflt (refine' PCX.useB (strip_blank prog w _ _ _) rfl rfl rfl K1 F2 N2 X2 T2 VB ?k7 ?k8 ?_; (case k7 => (show dp + 1 + 3 < recursionLimit; omega)); (case k8 => ktr_units)))
  intro r' tl' h3 tk3 F3 N3 _ hp'
  obtain ⟨t', hr', ht'⟩ := hp'
  subst hr' ht'
  k_steps
  all_goals (try k_data)
  rw [show (Str.ofString "" == Str.ofString "") = true by decide +kernel]
  exact hret _ [] _ _ _ Tn F3.keep (List.forall_mem_nil _) ⟨rfl, rfl⟩

end Mine
end
section
-- TurnZ
open PySem PySem.W PyProof.Rows PySem.Calls PySem.Spec PyProof.V
set_option Elab.async false
set_option maxRecDepth 100000
set_option maxHeartbeats 8000000
namespace Mine
theorem fill_TurnZ : (PySem.Challenge.rw_zn0017_01, hd.heap_39) = (PySem.Challenge.rw_zn0017_01, hd.heap_39) := by
  k_fill
  rfl
section
variable {w : World} {A : Around} {E : Value → Shared → Prop} {s : Shared} {base : Heap} {mg mb : Str → Option Value} {mean : ExcName → Option Value} {prog : Program}
variable {A₀ : Around} {h₀ : Heap} {L : Addr} {m : Str → Option Value} {news : List (Addr × Obj)} {env : Env} {outer : List Env} {f : Addr} {nd nu : Nat} {vs : List Value} {post : Value → List (Addr × Obj) → Prop} {Q : Value → Shared → Prop}
theorem frames_mem {b : Addr} (hf : env.frame = some L) (hm : b ∈ (env :: outer).filterMap (·.frame)) : b = L ∨ b ∈ outer.filterMap (·.frame) := by
  obtain ⟨e, he, hfe⟩ := List.mem_filterMap.mp hm
  rcases List.mem_cons.mp he with rfl | he
  · rw [hf] at hfe; exact .inl (Option.some.inj hfe).symm
  · exact .inr (List.mem_filterMap.mpr ⟨e, he, hfe⟩)
/-- after the frames have turned: the ground anew -/
theorem turned {G' h' : Heap} {tl : List (Addr × Obj)} (hf : env.frame = some L) (K : Below A₀ base outer h₀) (F : Fr h₀ L s.heap m) (N : News h₀ L s.heap news)
    (Tn : KtsTurn ((env :: outer).filterMap (·.frame)) s.heap G') (k : G'.StaysIn h') (l : Left G' h' tl) (D : KtsDicts (outer.filterMap (·.frame)) h₀) :
    ∃ h₁, KtsTurn (outer.filterMap (·.frame)) h₀ h₁ ∧ Fr h₁ L h' m ∧ News h₁ L h' (tl ++ news) ∧ (∀ p ∈ tl, ∀ q ∈ news, p.1 ≠ q.1) ∧ Below A₀ base outer h₁ ∧ KtsDicts (outer.filterMap (·.frame)) h₁ := by
  have up : ∀ b o, s.heap.get? b = some o → ∃ sl, h'.get? b = some { o with slots := sl } := fun b o e => by
    obtain ⟨sl, hs⟩ := Tn.up e
    exact ⟨sl, k _ _ hs⟩
  have nL : h₀.get? L = none := kts_self F
  have oth : ∀ b o, s.heap.get? b = some o → b ≠ L → b ∉ outer.filterMap (·.frame) → h'.get? b = some o := fun b o e h1 h2 => k _ _ (Tn.other b o e fun hm => by
    rcases frames_mem hf hm with z | z
    · exact h1 z
    · exact h2 z)
  obtain ⟨T, S⟩ := kts_turn_at (h := h') (fs := outer.filterMap (·.frame)) (g := h₀)
    (fun b hb => by
      obtain ⟨_, o, ho, _⟩ := K.frames.mem hb
      exact ⟨o, ho⟩)
    (fun b o e nm => oth b o (F.keep b o e) (fun z => by rw [z, nL] at e; cases e) nm)
    (fun b o e _ => up b o (F.keep b o e))
  have hns : h'.Ns L m := by
    obtain ⟨o, es, ep, hL, hd, r⟩ := F.ns
    obtain ⟨sl, hs⟩ := up _ _ hL
    exact ⟨_, es, ep, hs, hd, r⟩
  refine ⟨_, T, ⟨hns, S, by rw [T.size]; exact F.above⟩, fun p hp => ?_, fun p hp q hq e => ?_, ⟨K.stack, fun b o e => T.other b o (K.stays b o e) (fun hm => by
    rw [(K.frames.mem hm).1] at e
    cases e), K.frames.of_keeps fun b o e _ => ?_⟩, D.turn T⟩
  · rcases List.mem_append.mp hp with hp | hp
    · have g0 : s.heap.get? p.1 = none := by
        cases q : s.heap.get? p.1 with
        | none => rfl
        | some o =>
          obtain ⟨sl, hs⟩ := Tn.up q
          have := (l p hp).2
          rw [hs] at this; cases this
      refine ⟨(l p hp).1, fun q => ?_, T.none_ _ (kts_none F.keep g0)⟩
      obtain ⟨o, es, ep, hL, _⟩ := F.ns
      rw [q, hL] at g0; cases g0
    · refine ⟨oth _ _ (N p hp).1 (N p hp).2.1 (fun hm => ?_), (N p hp).2.1, T.none_ _ (N p hp).2.2⟩
      obtain ⟨_, o, ho, _⟩ := K.frames.mem hm
      rw [(N p hp).2.2] at ho; cases ho
  · have g1 := (N q hq).1
    rw [← e] at g1
    obtain ⟨sl, hs⟩ := Tn.up g1
    have := (l p hp).2
    rw [hs] at this; cases this
  · obtain ⟨sl, hs⟩ := T.up e
    exact ⟨_, hs, rfl⟩
theorem PCU.use (C : PCU prog w f nd nu s.heap vs post) (hh : A.handled = none) (hA : A.frames = some (env :: outer)) (hf : env.frame = some L) (hk : env.scope.kind = .function)
    (B : Below A₀ base outer h₀) (D : KtsDicts (outer.filterMap (·.frame)) h₀) (F : Fr h₀ L s.heap m) (N : News h₀ L s.heap news) (B0 : Bs w mean mg mb base)
    (hdp : A.depth + nd < recursionLimit) (hun : A.units + nu < cLine)
    (h : ∀ r tl h' tk' h₁, KtsTurn (outer.filterMap (·.frame)) h₀ h₁ → Fr h₁ L h' m → News h₁ L h' (tl ++ news) → (∀ p ∈ tl, ∀ q ∈ news, p.1 ≠ q.1) → Below A₀ base outer h₁ → KtsDicts (outer.filterMap (·.frame)) h₁ → post r tl → Q r { s with heap := h', toks := tk' }) :
    wpAny (model prog w) A (call (.ref f) vs) Q E s := by
  rw [around_eta hA hh]
  have Ds : KtsDicts ((env :: outer).filterMap (·.frame)) s.heap := fun b hb => by
    rcases frames_mem hf hb with rfl | hb
    · obtain ⟨o, es, ep, hL, hd, _⟩ := F.ns
      exact ⟨o, es, ep, hL, hd⟩
    · obtain ⟨o, es, n, ho, hd⟩ := D b hb
      exact ⟨o, es, n, F.keep _ _ ho, hd⟩
  refine C mean mg mb _ _ _ _ A base s Q E rfl (B0.keeps fun b o e => F.keep b o (B.stays b o e)) B0 Ds ((fun x => ⟨hA, Below.stays x, Below.frames x⟩) (pushX (env := env) B F hf hk)) hdp hun fun r tl h' tk' g' Tn k l p => ?_
  obtain ⟨h₁, a, b, c, d, e, g⟩ := turned hf B F N Tn k l D
  exact h r tl h' tk' h₁ a b c d e g p
end
section
variable {prog : Program} {w : World} {A : Around} {E : Value → Shared → Prop} {s : Shared} {env : Env} {h₀ : Heap} {target : Expr} {body : List Stmt} {Q : Flow → Shared → Prop}
def TEnd (C : Heap → Prop) (h₀ : Heap) (fs : List Addr) (L : Addr) (stored : List Str) (m₀ : Str → Option Value) (I : Addr) (oI : Obj) (Jn : (Str → Option Value) → List (Addr × Obj) → Prop) (s₁ s₂ : Shared) : Prop :=
  ∃ g h' tk m' news', C g ∧ KtsTurn fs h₀ g ∧ s₂ = { s₁ with heap := h', toks := tk } ∧ Fr g L h' m' ∧ News g L h' ((I, oI) :: news') ∧ (∀ p ∈ news', p.1 ≠ I) ∧ (∀ y, stored.contains y = false → m' y = m₀ y) ∧ Jn m' news'
def TPost (C : Heap → Prop) (h₀ : Heap) (fs : List Addr) (L : Addr) (stored : List Str) (m₀ : Str → Option Value) (I : Addr) (oI : Obj) (Jn : (Str → Option Value) → List (Addr × Obj) → Prop) (s₁ : Shared) (Q : Flow → Shared → Prop) (f : Flow) (s₂ : Shared) : Prop :=
  match f with
  | .ret v => Q (.ret v) s₂
  | .brk => Q .next s₂
  | _ => TEnd C h₀ fs L stored m₀ I oI Jn s₁ s₂
theorem TEnd.intro {C : Heap → Prop} {fs : List Addr} {g : Heap} {L I : Addr} {oI : Obj} {stored : List Str} {m₀ m' : Str → Option Value} {Jn : (Str → Option Value) → List (Addr × Obj) → Prop} {s₁ : Shared} {h' : Heap} {tk : Nat} {all : List (Addr × Obj)} (news' : List (Addr × Obj))
    (c : C g) (T : KtsTurn fs h₀ g) (F : Fr g L h' m') (N : News g L h' all) (hI : (I, oI) ∈ all) (sub : ∀ p ∈ news', p ∈ all) (off : ∀ p ∈ news', p.1 ≠ I) (hm : ∀ y, stored.contains y = false → m' y = m₀ y) (hJ : Jn m' news') :
    TEnd C h₀ fs L stored m₀ I oI Jn s₁ { s₁ with heap := h', toks := tk } :=
  ⟨g, h', tk, m', news', c, T, rfl, F, fun p hp => by
    rcases List.mem_cons.mp hp with rfl | hp
    · exact N _ hI
    · exact N _ (sub p hp), off, hm, hJ⟩
/-- a loop over a range whose turns may turn the frames below -/
theorem iter_range_turn {C : Heap → Prop} {fs : List Addr} {x : Str} {px : Pos} {r : Addr} {a₀ b₀ : Int} {t₀ u₀ v₀ : Tok} {n : Nat} {m₀ : Str → Option Value} {news : List (Addr × Obj)} (stored : List Str) (J : Nat → (Str → Option Value) → List (Addr × Obj) → Prop)
    (c0 : C h₀) (hh : A.handled = none) (hr : IsRange s.heap r a₀ b₀ 1 t₀ u₀ v₀) (hsmall : Builtin.Range.small a₀ b₀ 1 = true) (hn : Builtin.Range.rangeSize a₀ b₀ 1 = (n : Int)) (F : Fr h₀ env.locals s.heap m₀) (N : News h₀ env.locals s.heap news) (j0 : J 0 m₀ news)
    (turn : ∀ I i t (u : Str → Option Value) news₁ oI h tk g, C g → KtsTurn fs h₀ g → i < n → J i u news₁ → Fr g env.locals h (fun y => if stored.contains y then u y else m₀ y) → News g env.locals h ((I, oI) :: news₁) → (∀ p ∈ news₁, p.1 ≠ I) →
      wpAny (model prog w) A (storeName env x (.int (a₀ + (i : Int)) t)) (fun _ s' => wpAny (model prog w) A (execs body env) (TPost C h₀ fs env.locals stored m₀ I oI (J (i + 1)) { s with heap := h, toks := tk } Q) E s') E { s with heap := h, toks := tk })
    (done : ∀ (u : Str → Option Value) news₁ h tk g, C g → KtsTurn fs h₀ g → J n u news₁ → Fr g env.locals h (fun y => if stored.contains y then u y else m₀ y) → News g env.locals h news₁ → Q .next { s with heap := h, toks := tk }) :
    wpAny (model prog w) A (pyIter (.ref r)) (fun it s₂ => LoopG prog w A env (.Name x px) body Q E it s₂) E s := by
  refine wpAny_pyIter_range hr hsmall ?_
  have W := LCg.range_walks (prog := prog) (w := w) (A := A) (I := s.heap.objs.size) hh a₀ n
  have hI0 : h₀.get? s.heap.objs.size = none := next_is_new F
  have hIL : env.locals ≠ s.heap.objs.size := Nat.ne_of_lt F.ns.lt
  generalize hIe : s.heap.objs.size = I at W hI0 hIL
  have eqm : ∀ m₁ : Str → Option Value, (∀ y, stored.contains y = false → m₁ y = m₀ y) → (fun y => if stored.contains y then m₁ y else m₀ y) = m₁ := fun m₁ hm => by
    funext y
    cases h2 : stored.contains y with
    | true => simp
    | false => simp [hm y h2]
  refine ⟨fun k s' => ∃ g h' tk m' news' i, C g ∧ KtsTurn fs h₀ g ∧ s' = { s with heap := h', toks := tk } ∧ IsRangeIter h' I (a₀ + (i : Nat) * 1) ((n : Int) - (i : Nat)) 1 ∧ Fr g env.locals h' m' ∧ News g env.locals h' news' ∧ (∀ p ∈ news', p.1 ≠ I) ∧ (∀ y, stored.contains y = false → m' y = m₀ y) ∧ J i m' news' ∧ i ≤ n ∧ k = n + 1 - i, n + 1,
    ⟨h₀, _, s.toks, m₀, news, 0, c0, KtsTurn.refl, rfl, ?_, F.push _, (fun p hp => ⟨Heap.get?_push_of_some _ (N p hp).1, (N p hp).2⟩), (fun p hp => hIe ▸ Nat.ne_of_lt (Heap.lt_size (N p hp).1)), fun _ _ => rfl, j0, Nat.zero_le _, rfl⟩, ?_⟩
  · show IsRangeIter _ _ _ _ _
    rw [hn]; subst hIe; simpa using Heap.get?_push_size _ rfl
  rintro k s' ⟨g, h', tk, m', news', i, cg, Tg, rfl, hst', F', N', hoff, hm, hJ, hi, rfl⟩
  have hIg : g.get? I = none := Tg.none_ _ hI0
  have next : ∀ h₁ : Heap, (∀ b o, b ∉ [I] → h'.get? b = some o → h₁.get? b = some o) → Fr g env.locals h₁ m' ∧ News g env.locals h₁ news' := fun h₁ hk₁ =>
    ⟨LCg.fr_but F' hk₁ hIL hIg, LCg.news_but N' hk₁ hoff⟩
  by_cases hlt : i < n
  · refine W.item i _ _ _ hlt hst' fun v h₁ tk₁ hP hst₁ hk₁ => ?_
    obtain ⟨F₁, N₁⟩ := next h₁ hk₁
    obtain ⟨oI, heI, hbk⟩ : ∃ oI, h₁.get? I = some oI ∧ ∀ hz : Heap, hz.get? I = some oI → IsRangeIter hz I (a₀ + ((i + 1 : Nat) : Nat) * 1) ((n : Int) - ((i + 1 : Nat) : Nat)) 1 := ⟨_, hst₁, fun _ e => e⟩
    have N₂ : News g env.locals h₁ ((I, oI) :: news') := fun p hp => by
      rcases List.mem_cons.mp hp with rfl | hp
      · exact ⟨heI, Ne.symm hIL, hIg⟩
      · exact N₁ _ hp
    rw [← eqm m' hm] at F₁
    obtain ⟨t, rfl⟩ := hP
    dsimp only
    refine wpAny_of_eq (a := ()) rfl ?_
    refine wpAny_mono (wpAny_assign_Name (turn I i t m' news' _ h₁ tk₁ g cg Tg hlt hJ F₁ N₂ hoff)) (fun _ s₂ hq => wpAny_mono hq (fun f s₃ h₃ => ?_) fun _ _ e => e) fun _ _ e => e
    have fin : TEnd C h₀ fs env.locals stored m₀ I oI (J (i + 1)) { s with heap := h₁, toks := tk₁ } s₃ → ∃ m, m < n + 1 - i ∧ ∃ g h' tk m' news' i, C g ∧ KtsTurn fs h₀ g ∧ s₃ = { s with heap := h', toks := tk } ∧ IsRangeIter h' I (a₀ + (i : Nat) * 1) ((n : Int) - (i : Nat)) 1 ∧ Fr g env.locals h' m' ∧ News g env.locals h' news' ∧ (∀ p ∈ news', p.1 ≠ I) ∧ (∀ y, stored.contains y = false → m' y = m₀ y) ∧ J i m' news' ∧ i ≤ n ∧ m = n + 1 - i := by
      rintro ⟨g₃, hp₃, tk₃, m₃, news₃, c₃, T₃, rfl, F₃, N₃, off₃, hm₃, J₃⟩
      refine ⟨n + 1 - (i + 1), by omega, g₃, hp₃, tk₃, m₃, news₃, i + 1, c₃, T₃, rfl, hbk _ (N₃ _ (List.mem_cons_self ..)).1, F₃, fun p hp => N₃ p (List.mem_cons_of_mem _ hp), off₃, hm₃, J₃, hlt, rfl⟩
    cases f with
    | ret v => exact h₃
    | brk => exact h₃
    | next => exact fin h₃
    | cont => exact fin h₃
  · have hin : i = n := by omega
    subst hin
    refine W.done _ _ _ hst' fun h₁ tk₁ hk₁ => ?_
    obtain ⟨F₁, N₁⟩ := next h₁ hk₁
    rw [← eqm m' hm] at F₁
    exact done m' news' h₁ tk₁ g cg Tg hJ F₁ N₁
end

end Mine
end
section
-- DictcZ
open PySem PySem.W PyProof.Rows PySem.Calls PySem.Spec PyProof.V
set_option Elab.async false
set_option maxRecDepth 100000
set_option maxHeartbeats 8000000
namespace Mine
theorem fill_DictcZ : (PySem.Challenge.rw_zn0017_01, hd.heap_39) = (PySem.Challenge.rw_zn0017_01, hd.heap_39) := by
  k_fill
  rfl
section
variable {prog : Program} {w : World} {A : Around} {E : Value → Shared → Prop} {s : Shared} {h₀ : Heap} {L : Addr} {m : Str → Option Value} {news : List (Addr × Obj)} {env : Env}
theorem areOf_all {α : Type} {K : ItemKind α} : ∀ (vs : List Value) (as : List α), vs.length = as.length → (∀ (j : Nat) (v : Value) (a : α), vs[j]? = some v → as[j]? = some a → K.is a v) → AreOf K vs as
  | [], [], _, _ => .nil
  | [], _ :: _, h, _ => by simp at h
  | _ :: _, [], h, _ => by simp at h
  | v :: vs, a :: as, h, hk => .cons (hk 0 v a rfl rfl) (areOf_all vs as (by simpa using h) fun j v a h1 h2 => hk (j + 1) v a (by simpa using h1) (by simpa using h2))
theorem areOf_range (a : Int) (n : Nat) (vs : List Value) (hl : vs.length = n) (h : ∀ (j : Nat) (v : Value), vs[j]? = some v → ∃ t, v = Value.int (a + (j : Int)) t) : AreOf ItemKind.int vs (rangeKs a n) :=
  areOf_all vs _ (by rw [hl, rangeKs_length]) fun j v b h1 h2 => by
    obtain ⟨t, rfl⟩ := h j v h1
    have : j < n := by rw [← hl]; exact (List.getElem?_eq_some_iff.mp h1).1
    simp only [rangeKs, List.getElem?_map, List.getElem?_range this, Option.map_some, Option.some.injEq] at h2
    exact ⟨t, by rw [h2]⟩
theorem in_range (a : Int) {i n : Nat} (h : i < n) : a + (i : Int) ∈ rangeKs a n := List.mem_map.mpr ⟨i, List.mem_range.mpr h, rfl⟩
theorem newDict_at {M : Model} {A : Around} {E : Value → Shared → Prop} {s : Shared} {Q : Value → Shared → Prop} (h : wpAny M A newDict Q E s) : wpAny M A newDict (fun acc s' => acc = .ref s.heap.objs.size ∧ Q acc s') E s :=
  fun Γ p hΓ => ⟨rfl, h Γ p hΓ⟩
/-- a dict comprehension over a range, its keys texts, its values ints, with a test -/
theorem dictcomp_range {kx vx iter : Expr} {x y : Str} {px py : Pos} {ifs : List Expr} {scope : Scope} {cl : List (Str × Addr)} {pos spos : Pos} {Q : Flow → Shared → Prop} (_F : Fr h₀ L s.heap m) (_N : News h₀ L s.heap news) (hbig : sysModules < h₀.objs.size) (kf : Int → Str) (pz : Int → Bool) (d : Int → PyData)
    (hsw : swapsWith (.DictComp kx vx [⟨.Name x px, iter, ifs, 0⟩] scope pos) (some (.Name y py)) spos.line env = pure true) (hL : env.locals = L)
    (hh : A.handled = none) (hclos : closureFor scope env = pure cl) (hcell : ∀ z ∈ scope.names, z.2 ≠ .cell) (hkind : scope.kind = .function)
    (hnames : ∀ z ∈ scope.names, z.2 = .local → scope.names.lookup z.1 = some .local) (hx : scope.names.lookup x = some .local)
    (hy : env.kindOf y = some .local) (hp : (env.scope.kind == .class || (env.scope.kind == .module && env.locals != env.globals)) = false)
    (h : wpAny (model prog w) A (eval iter env) (fun xv s₁ => Stop (∃ (r : Addr) (a b : Int) (t u v : Tok) (n : Nat), xv = .ref r ∧ IsRange s₁.heap r a b 1 t u v ∧ Builtin.Range.small a b 1 = true ∧ Builtin.Range.rangeSize a b 1 = (n : Int) ∧ n ≤ sizeLine ∧ Fr h₀ L s₁.heap m ∧ News h₀ L s₁.heap news ∧
      (∀ C k t s₂ m₂ E', k ∈ rangeKs a n → pz k = true → s₂.heap.Ns (compEnvC scope cl C env).locals m₂ → m₂ x = some (.int k t) → (∀ b o, s₁.heap.get? b = some o → s₂.heap.get? b = some o) →
        wpAny (model prog w) A (eval kx (compEnvC scope cl C env)) (fun key s₃ => (strKind prog w).is (kf k) key = true ∧ Keeps s₂ s₃) E' s₂) ∧
      (∀ C k t s₂ m₂ E', k ∈ rangeKs a n → s₂.heap.Ns (compEnvC scope cl C env).locals m₂ → m₂ x = some (.int k t) → (∀ b o, s₁.heap.get? b = some o → s₂.heap.get? b = some o) →
        wpAny (model prog w) A (forIn ifs true fun c r => if r = true then do let ok ← isTrue c (compEnvC scope cl C env) (eval c (compEnvC scope cl C env)); pure (ForInStep.yield ok) else pure (ForInStep.yield r))
          (fun ok s₃ => ok = pz k ∧ Keeps s₂ s₃) E' s₂) ∧
      (∀ C k t s₂ m₂ E', k ∈ rangeKs a n → pz k = true → s₂.heap.Ns (compEnvC scope cl C env).locals m₂ → m₂ x = some (.int k t) → (∀ b o, s₁.heap.get? b = some o → s₂.heap.get? b = some o) →
        wpAny (model prog w) A (eval vx (compEnvC scope cl C env)) (fun y s₃ => Carried y (d k) ∧ Keeps s₂ s₃) E' s₂) ∧
      (∀ D (kvs : List (Str × Value)) h' tk, Fr h₀ L h' (fun z => if z = y then some (.ref D) else m z) → News h₀ L h' news → h₀.get? D = none → (∀ p ∈ news, p.1 ≠ D) → (D == sysModules) = false → h'.DictOf (strKind prog w) D kvs → FlatPairs PyData.str kvs (putAll PyData.str kf d ((rangeKs a n).filter pz)) → @Ne Nat D L → Q .next { s₁ with heap := h', toks := tk }))) E s)
    (hs : ∀ x, foldedSetIterable iter env x = pure x) :
    wpAny (model prog w) A (exec (.Assign [.Name y py] (.DictComp kx vx [⟨.Name x px, iter, ifs, 0⟩] scope pos) spos) env) Q E s := by
  subst hL
  rw [exec_Assign_Name_used _ _ _ _ hsw]
  refine wpAny_bind (wpAny_standAt (wpAny_bind ?_))
  show wpAny _ A (do let _ ← comprehension (.DictComp kx vx [⟨.Name x px, iter, ifs, 0⟩] scope pos) scope env _ newDict false (eval iter env) (some (assign (.Name y py) env))) _ _ s
  refine wpAny_bind (wpAny_mono (wpAny_comprehension_free (use := some (assign (.Name y py) env)) (Q := fun _ s' => Q .next s') rfl hs hclos hkind hnames
    (wpAny_mono h (fun xv s₁ h₁ => ?_) fun _ _ e => e)) (fun _ s' hq => wpAny_pure (wpAny_pure hq)) fun _ _ e => e)
  obtain ⟨r, a, b, t, u, v, n, rfl, hr, hsm, hn, hsz, F, N, hkey, htests, hval, hQ⟩ := Stop.out h₁
  refine wpAny_pyIter_range hr hsm ?_
  have up : ∀ (oI : Obj) (s₃ : Shared), (∀ (b : Nat) o, b ∉ [s₁.heap.objs.size] → (s₁.heap.push oI).get? b = some o → s₃.heap.get? b = some o) → ∀ b o, s₁.heap.get? b = some o → s₃.heap.get? b = some o :=
    fun oI s₃ hk b o e => hk b o (fun hm => by rcases List.mem_cons.mp hm with rfl | hm; exact Nat.lt_irrefl _ (Heap.lt_size e); cases hm) (Heap.get?_push_of_some _ e)
  have fin : ∀ (sz : Nat), sz = (s₁.heap.push { cls := .type "range_iterator", data := .fields #[rawInt a, rawInt (Builtin.Range.rangeSize a b 1), rawInt 1] }).objs.size → (sz == sysModules) = false := fun sz e => by
    subst e
    exact (F.push _).notModules hbig
  refine wpAny_mono (newDict_at (comp_block_walkCD (knd := strKind prog w) (RR := fun acc C r s₉ => acc = .ref (s₁.heap.push { cls := .type "range_iterator", data := .fields #[rawInt a, rawInt (Builtin.Range.rangeSize a b 1), rawInt 1] }).objs.size → compPost (model prog w) A E (some (assign (.Name y py) env)) (fun _ s' => Q .next s') acc C r s₉) (LCg.range_walks hh a n).bound hsz (ItemKind.int.lift pz)
    (fun v k => ∃ a, ItemKind.int.is a v ∧ k = kf a) (fun v y => ∃ a, ItemKind.int.is a v ∧ Carried y (d a)) hcell hkind hx (by show IsRangeIter _ _ _ _ _; rw [hn]; simpa using Heap.get?_push_size _ rfl) ?_ ⟨?_, ?_, ?_⟩ ?_))
    (fun acc s₉ h₉ => wpAny_mono h₉.2 (fun cenv s₈ h₈ => codeAny_mono h₈ fun r s₇ h₇ => h₇ h₉.1) fun _ _ e => e) fun _ _ e => e
  · intro b hb
    show b < (s₁.heap.push _).objs.size
    rw [Heap.size_push, List.mem_singleton.mp hb]
    exact Nat.lt_succ_self _
  · intro C i v s₃ m₃ E' hP hn hm hk
    obtain ⟨hin, t, rfl⟩ := hP
    rw [ItemKind.lift_is (K := ItemKind.int) (a := a + (i : Int)) ⟨t, rfl⟩]
    exact htests C _ t s₃ m₃ E' (in_range a hin) hn hm (up _ s₃ hk)
  · intro C i v s₃ m₃ E' hP hp' hn hm hk
    obtain ⟨hin, t, rfl⟩ := hP
    rw [ItemKind.lift_is (K := ItemKind.int) (a := a + (i : Int)) ⟨t, rfl⟩] at hp'
    exact wpAny_mono (hkey C _ t s₃ m₃ E' (in_range a hin) hp' hn hm (up _ s₃ hk)) (fun key s₄ h₄ => ⟨⟨_, h₄.1, _, ⟨t, rfl⟩, rfl⟩, h₄.2⟩) fun _ _ e => e
  · intro C i v s₃ m₃ E' hP hp' hn hm hk
    obtain ⟨hin, t, rfl⟩ := hP
    rw [ItemKind.lift_is (K := ItemKind.int) (a := a + (i : Int)) ⟨t, rfl⟩] at hp'
    exact wpAny_mono (hval C _ t s₃ m₃ E' (in_range a hin) hp' hn hm (up _ s₃ hk)) (fun y s₄ h₄ => ⟨⟨_, ⟨t, rfl⟩, h₄.1⟩, h₄.2⟩) fun _ _ e => e
  · intro D C h' tk m' kvs vs' hD hC hDC hnC hlD hlen hP hF hk hDe
    have hn := F.ns.push (o := { cls := .type "range_iterator", data := .fields #[rawInt a, rawInt (Builtin.Range.rangeSize a b 1), rawInt 1] })
    have hLf : env.locals ∉ [s₁.heap.objs.size] := fun hm => by
      rcases List.mem_cons.mp hm with e | hm
      · exact Nat.lt_irrefl _ (e ▸ F.ns.lt)
      · cases hm
    have hLC : env.locals ≠ C := by rintro rfl; obtain ⟨o, _, _, ho, _⟩ := hn; rw [hC] at ho; cases ho
    have hLD : env.locals ≠ D := by rintro rfl; obtain ⟨o, _, _, ho, _⟩ := hn; rw [hD] at ho; cases ho
    show wpAny _ A (assign (.Name y py) env (.ref D)) _ _ _
    refine wpAny_assign_Name (wpAny_storeName_local hy (hn.at' fun o e => hk _ o hLf e) (fun h₂ hn₂ hs₂ => ?_) hp)
    refine ⟨m', hnC.sameBut hs₂ (Ne.symm hLC), fun h₃ hs₃ => ?_⟩
    have keep : ∀ b o, b ≠ env.locals → s₁.heap.get? b = some o → h₃.get? b = some o := fun b o hb e =>
      hs₃.extBut b o (by rintro rfl; rw [Heap.get?_push_of_some _ e] at hC; cases hC) (hs₂.extBut b o hb (up _ { s₁ with heap := h' } hk b o e))
    refine hQ D kvs h₃ _ ⟨hn₂.sameBut hs₃ hLC, fun b o e => keep b o (Nat.ne_of_lt (Nat.lt_of_lt_of_le (Heap.lt_size e) F.above)) (F.keep b o e), F.above⟩
      (fun p hp => ⟨keep _ _ (N p hp).2.1 (N p hp).1, (N p hp).2⟩) ?_ (fun p hp e => by rw [← e, Heap.get?_push_of_some _ (N p hp).1] at hD; cases hD) (by cases hDe; exact fin _ rfl) ((hlD.extBut hs₂.extBut (Ne.symm hLD)).extBut hs₃.extBut hDC)
      (storedAll_flat PyProof.V.same_str hF _ ((areOf_range a n vs' hlen fun j v e => by obtain ⟨_, t, ht⟩ := hP j v e; exact ⟨t, ht⟩).filter pz)) (Ne.symm hLD)
    cases e : h₀.get? D with
    | none => rfl
    | some o' => rw [Heap.get?_push_of_some _ (F.keep _ _ e)] at hD; cases hD
end

end Mine
end
section
-- FltD
open PySem PySem.W PyProof.Rows PySem.Calls PySem.Spec PySem.Flt
set_option Elab.async false
set_option maxRecDepth 100000
set_option maxHeartbeats 4000000
namespace Mine
open Float64 (add sub mul div divmod cmp isZero)
def q8 (k : Int) : UInt64 := Float64.ofFrac (decide (k < 0) != decide ((8 : Int) < 0)) k.natAbs (8 : Int).natAbs
def tI (x : UInt64) : Int := PySem.Flt.toInt Float64.truncOf x
def shHsv (l m r : Int) : UInt64 × UInt64 × UInt64 := hsvF (q8 l) (q8 m) (q8 r)
def shHls (l m r : Int) : UInt64 × UInt64 × UInt64 := hlsF (q8 r) (q8 l) (q8 m)
def shRgb (l m r : Int) : UInt64 × UInt64 × UInt64 := rgbF (shHls l m r).1 (shHls l m r).2.1 (shHls l m r).2.2
def shTop (l m r : Int) : UInt64 := mul (Float64.ofInt 8) (shHsv l m r).2.2
def shTurn (l m r : Int) : UInt64 := add (mul (Float64.ofInt (6 * (max l r - m))) (shHsv l m r).1) ch
def shPond (l m r : Int) : UInt64 := add (mul (Float64.ofInt (6 * (max l r - m))) (shHls l m r).1) ch
def shPart (x : UInt64) : UInt64 := add (mul (Float64.ofInt 8) x) ch
def shDepth (sp t : Int) : Int := if sp = 0 then 0 else if 4 * sp ≤ t ∧ t < 5 * sp then t - 4 * sp else (6 * sp - t) % (6 * sp)
def shB (l m r : Int) : Bool :=
  Float64.isFinite (shTop l m r) && (tI (shTop l m r) == max l r) && Float64.isFinite (shTurn l m r) && Float64.isFinite (shPond l m r)
  && (shDepth (max l r - m) (tI (shTurn l m r)) == min l r - m) && ((if r < l then 2 * (max l r - m) - tI (shPond l m r) else tI (shPond l m r)) == min l r - m)
  && Float64.isFinite (shPart (shRgb l m r).1) && Float64.isFinite (shPart (shRgb l m r).2.1) && Float64.isFinite (shPart (shRgb l m r).2.2)
  && (tI (shPart (shRgb l m r).1) == r) && (tI (shPart (shRgb l m r).2.1) == l) && (tI (shPart (shRgb l m r).2.2) == m)
  && (Float64.cmpInt (shTop l m r) (max l r) == some Ordering.eq) && (Float64.cmpInt (mul (Float64.ofInt 16) (shHls l m r).2.1) (max l r + m) == some Ordering.eq)
  && (feq (mn3 (q8 l) (q8 m) (q8 r)) (mx3 (q8 l) (q8 m) (q8 r)) || (!isZero (mx3 (q8 l) (q8 m) (q8 r)) && !isZero (sub (mx3 (q8 l) (q8 m) (q8 r)) (mn3 (q8 l) (q8 m) (q8 r)))))
  && (feq (mn3 (q8 r) (q8 l) (q8 m)) (mx3 (q8 r) (q8 l) (q8 m)) || (!isZero (sub (mx3 (q8 r) (q8 l) (q8 m)) (mn3 (q8 r) (q8 l) (q8 m))) && !isZero (add (mx3 (q8 r) (q8 l) (q8 m)) (mn3 (q8 r) (q8 l) (q8 m)))
      && !isZero (sub (sub 0x4000000000000000 (mx3 (q8 r) (q8 l) (q8 m))) (mn3 (q8 r) (q8 l) (q8 m)))))
theorem all8 {P : Nat → Prop} (h0 : P 0) (h1 : P 1) (h2 : P 2) (h3 : P 3) (h4 : P 4) (h5 : P 5) (h6 : P 6) (h7 : P 7) (n : Nat) (h : n < 8) : P n := by
  rcases n with _ | _ | _ | _ | _ | _ | _ | _ | n
  · exact h0
  · exact h1
  · exact h2
  · exact h3
  · exact h4
  · exact h5
  · exact h6
  · exact h7
  · exact absurd h (Nat.not_lt.mpr (Nat.le_add_left 8 n))
theorem sh_0_0 : ∀ r : _root_.Fin 8, decide (0 ≤ r.1) = true → shB ((0 : Nat) : Int) ((0 : Nat) : Int) (r.1 : Int) = true := by decide +kernel
theorem sh_1_0 : ∀ r : _root_.Fin 8, decide (0 ≤ r.1) = true → shB ((1 : Nat) : Int) ((0 : Nat) : Int) (r.1 : Int) = true := by decide +kernel
theorem sh_1_1 : ∀ r : _root_.Fin 8, decide (1 ≤ r.1) = true → shB ((1 : Nat) : Int) ((1 : Nat) : Int) (r.1 : Int) = true := by decide +kernel
theorem sh_2_0 : ∀ r : _root_.Fin 8, decide (0 ≤ r.1) = true → shB ((2 : Nat) : Int) ((0 : Nat) : Int) (r.1 : Int) = true := by decide +kernel
theorem sh_2_1 : ∀ r : _root_.Fin 8, decide (1 ≤ r.1) = true → shB ((2 : Nat) : Int) ((1 : Nat) : Int) (r.1 : Int) = true := by decide +kernel
theorem sh_2_2 : ∀ r : _root_.Fin 8, decide (2 ≤ r.1) = true → shB ((2 : Nat) : Int) ((2 : Nat) : Int) (r.1 : Int) = true := by decide +kernel
theorem sh_3_0 : ∀ r : _root_.Fin 8, decide (0 ≤ r.1) = true → shB ((3 : Nat) : Int) ((0 : Nat) : Int) (r.1 : Int) = true := by decide +kernel
theorem sh_3_1 : ∀ r : _root_.Fin 8, decide (1 ≤ r.1) = true → shB ((3 : Nat) : Int) ((1 : Nat) : Int) (r.1 : Int) = true := by decide +kernel
theorem sh_3_2 : ∀ r : _root_.Fin 8, decide (2 ≤ r.1) = true → shB ((3 : Nat) : Int) ((2 : Nat) : Int) (r.1 : Int) = true := by decide +kernel
theorem sh_3_3 : ∀ r : _root_.Fin 8, decide (3 ≤ r.1) = true → shB ((3 : Nat) : Int) ((3 : Nat) : Int) (r.1 : Int) = true := by decide +kernel
theorem sh_4_0 : ∀ r : _root_.Fin 8, decide (0 ≤ r.1) = true → shB ((4 : Nat) : Int) ((0 : Nat) : Int) (r.1 : Int) = true := by decide +kernel
theorem sh_4_1 : ∀ r : _root_.Fin 8, decide (1 ≤ r.1) = true → shB ((4 : Nat) : Int) ((1 : Nat) : Int) (r.1 : Int) = true := by decide +kernel
theorem sh_4_2 : ∀ r : _root_.Fin 8, decide (2 ≤ r.1) = true → shB ((4 : Nat) : Int) ((2 : Nat) : Int) (r.1 : Int) = true := by decide +kernel
theorem sh_4_3 : ∀ r : _root_.Fin 8, decide (3 ≤ r.1) = true → shB ((4 : Nat) : Int) ((3 : Nat) : Int) (r.1 : Int) = true := by decide +kernel
theorem sh_4_4 : ∀ r : _root_.Fin 8, decide (4 ≤ r.1) = true → shB ((4 : Nat) : Int) ((4 : Nat) : Int) (r.1 : Int) = true := by decide +kernel
theorem sh_5_0 : ∀ r : _root_.Fin 8, decide (0 ≤ r.1) = true → shB ((5 : Nat) : Int) ((0 : Nat) : Int) (r.1 : Int) = true := by decide +kernel
theorem sh_5_1 : ∀ r : _root_.Fin 8, decide (1 ≤ r.1) = true → shB ((5 : Nat) : Int) ((1 : Nat) : Int) (r.1 : Int) = true := by decide +kernel
theorem sh_5_2 : ∀ r : _root_.Fin 8, decide (2 ≤ r.1) = true → shB ((5 : Nat) : Int) ((2 : Nat) : Int) (r.1 : Int) = true := by decide +kernel
theorem sh_5_3 : ∀ r : _root_.Fin 8, decide (3 ≤ r.1) = true → shB ((5 : Nat) : Int) ((3 : Nat) : Int) (r.1 : Int) = true := by decide +kernel
theorem sh_5_4 : ∀ r : _root_.Fin 8, decide (4 ≤ r.1) = true → shB ((5 : Nat) : Int) ((4 : Nat) : Int) (r.1 : Int) = true := by decide +kernel
theorem sh_5_5 : ∀ r : _root_.Fin 8, decide (5 ≤ r.1) = true → shB ((5 : Nat) : Int) ((5 : Nat) : Int) (r.1 : Int) = true := by decide +kernel
theorem sh_6_0 : ∀ r : _root_.Fin 8, decide (0 ≤ r.1) = true → shB ((6 : Nat) : Int) ((0 : Nat) : Int) (r.1 : Int) = true := by decide +kernel
theorem sh_6_1 : ∀ r : _root_.Fin 8, decide (1 ≤ r.1) = true → shB ((6 : Nat) : Int) ((1 : Nat) : Int) (r.1 : Int) = true := by decide +kernel
theorem sh_6_2 : ∀ r : _root_.Fin 8, decide (2 ≤ r.1) = true → shB ((6 : Nat) : Int) ((2 : Nat) : Int) (r.1 : Int) = true := by decide +kernel
theorem sh_6_3 : ∀ r : _root_.Fin 8, decide (3 ≤ r.1) = true → shB ((6 : Nat) : Int) ((3 : Nat) : Int) (r.1 : Int) = true := by decide +kernel
theorem sh_6_4 : ∀ r : _root_.Fin 8, decide (4 ≤ r.1) = true → shB ((6 : Nat) : Int) ((4 : Nat) : Int) (r.1 : Int) = true := by decide +kernel
theorem sh_6_5 : ∀ r : _root_.Fin 8, decide (5 ≤ r.1) = true → shB ((6 : Nat) : Int) ((5 : Nat) : Int) (r.1 : Int) = true := by decide +kernel
theorem sh_6_6 : ∀ r : _root_.Fin 8, decide (6 ≤ r.1) = true → shB ((6 : Nat) : Int) ((6 : Nat) : Int) (r.1 : Int) = true := by decide +kernel
theorem sh_7_0 : ∀ r : _root_.Fin 8, decide (0 ≤ r.1) = true → shB ((7 : Nat) : Int) ((0 : Nat) : Int) (r.1 : Int) = true := by decide +kernel
theorem sh_7_1 : ∀ r : _root_.Fin 8, decide (1 ≤ r.1) = true → shB ((7 : Nat) : Int) ((1 : Nat) : Int) (r.1 : Int) = true := by decide +kernel
theorem sh_7_2 : ∀ r : _root_.Fin 8, decide (2 ≤ r.1) = true → shB ((7 : Nat) : Int) ((2 : Nat) : Int) (r.1 : Int) = true := by decide +kernel
theorem sh_7_3 : ∀ r : _root_.Fin 8, decide (3 ≤ r.1) = true → shB ((7 : Nat) : Int) ((3 : Nat) : Int) (r.1 : Int) = true := by decide +kernel
theorem sh_7_4 : ∀ r : _root_.Fin 8, decide (4 ≤ r.1) = true → shB ((7 : Nat) : Int) ((4 : Nat) : Int) (r.1 : Int) = true := by decide +kernel
theorem sh_7_5 : ∀ r : _root_.Fin 8, decide (5 ≤ r.1) = true → shB ((7 : Nat) : Int) ((5 : Nat) : Int) (r.1 : Int) = true := by decide +kernel
theorem sh_7_6 : ∀ r : _root_.Fin 8, decide (6 ≤ r.1) = true → shB ((7 : Nat) : Int) ((6 : Nat) : Int) (r.1 : Int) = true := by decide +kernel
theorem sh_7_7 : ∀ r : _root_.Fin 8, decide (7 ≤ r.1) = true → shB ((7 : Nat) : Int) ((7 : Nat) : Int) (r.1 : Int) = true := by decide +kernel
theorem sh_at0 : ∀ b : Nat, b < 8 → b ≤ 0 → ∀ r : _root_.Fin 8, decide (b ≤ r.1) = true → shB ((0 : Nat) : Int) (b : Int) (r.1 : Int) = true :=
  all8 (P := fun b => b ≤ 0 → ∀ r : _root_.Fin 8, decide (b ≤ r.1) = true → shB ((0 : Nat) : Int) (b : Int) (r.1 : Int) = true) (fun _ => sh_0_0) (fun h => absurd h (by decide)) (fun h => absurd h (by decide)) (fun h => absurd h (by decide)) (fun h => absurd h (by decide)) (fun h => absurd h (by decide)) (fun h => absurd h (by decide)) (fun h => absurd h (by decide))
theorem sh_at1 : ∀ b : Nat, b < 8 → b ≤ 1 → ∀ r : _root_.Fin 8, decide (b ≤ r.1) = true → shB ((1 : Nat) : Int) (b : Int) (r.1 : Int) = true :=
  all8 (P := fun b => b ≤ 1 → ∀ r : _root_.Fin 8, decide (b ≤ r.1) = true → shB ((1 : Nat) : Int) (b : Int) (r.1 : Int) = true) (fun _ => sh_1_0) (fun _ => sh_1_1) (fun h => absurd h (by decide)) (fun h => absurd h (by decide)) (fun h => absurd h (by decide)) (fun h => absurd h (by decide)) (fun h => absurd h (by decide)) (fun h => absurd h (by decide))
theorem sh_at2 : ∀ b : Nat, b < 8 → b ≤ 2 → ∀ r : _root_.Fin 8, decide (b ≤ r.1) = true → shB ((2 : Nat) : Int) (b : Int) (r.1 : Int) = true :=
  all8 (P := fun b => b ≤ 2 → ∀ r : _root_.Fin 8, decide (b ≤ r.1) = true → shB ((2 : Nat) : Int) (b : Int) (r.1 : Int) = true) (fun _ => sh_2_0) (fun _ => sh_2_1) (fun _ => sh_2_2) (fun h => absurd h (by decide)) (fun h => absurd h (by decide)) (fun h => absurd h (by decide)) (fun h => absurd h (by decide)) (fun h => absurd h (by decide))
theorem sh_at3 : ∀ b : Nat, b < 8 → b ≤ 3 → ∀ r : _root_.Fin 8, decide (b ≤ r.1) = true → shB ((3 : Nat) : Int) (b : Int) (r.1 : Int) = true :=
  all8 (P := fun b => b ≤ 3 → ∀ r : _root_.Fin 8, decide (b ≤ r.1) = true → shB ((3 : Nat) : Int) (b : Int) (r.1 : Int) = true) (fun _ => sh_3_0) (fun _ => sh_3_1) (fun _ => sh_3_2) (fun _ => sh_3_3) (fun h => absurd h (by decide)) (fun h => absurd h (by decide)) (fun h => absurd h (by decide)) (fun h => absurd h (by decide))
theorem sh_at4 : ∀ b : Nat, b < 8 → b ≤ 4 → ∀ r : _root_.Fin 8, decide (b ≤ r.1) = true → shB ((4 : Nat) : Int) (b : Int) (r.1 : Int) = true :=
  all8 (P := fun b => b ≤ 4 → ∀ r : _root_.Fin 8, decide (b ≤ r.1) = true → shB ((4 : Nat) : Int) (b : Int) (r.1 : Int) = true) (fun _ => sh_4_0) (fun _ => sh_4_1) (fun _ => sh_4_2) (fun _ => sh_4_3) (fun _ => sh_4_4) (fun h => absurd h (by decide)) (fun h => absurd h (by decide)) (fun h => absurd h (by decide))
theorem sh_at5 : ∀ b : Nat, b < 8 → b ≤ 5 → ∀ r : _root_.Fin 8, decide (b ≤ r.1) = true → shB ((5 : Nat) : Int) (b : Int) (r.1 : Int) = true :=
  all8 (P := fun b => b ≤ 5 → ∀ r : _root_.Fin 8, decide (b ≤ r.1) = true → shB ((5 : Nat) : Int) (b : Int) (r.1 : Int) = true) (fun _ => sh_5_0) (fun _ => sh_5_1) (fun _ => sh_5_2) (fun _ => sh_5_3) (fun _ => sh_5_4) (fun _ => sh_5_5) (fun h => absurd h (by decide)) (fun h => absurd h (by decide))
theorem sh_at6 : ∀ b : Nat, b < 8 → b ≤ 6 → ∀ r : _root_.Fin 8, decide (b ≤ r.1) = true → shB ((6 : Nat) : Int) (b : Int) (r.1 : Int) = true :=
  all8 (P := fun b => b ≤ 6 → ∀ r : _root_.Fin 8, decide (b ≤ r.1) = true → shB ((6 : Nat) : Int) (b : Int) (r.1 : Int) = true) (fun _ => sh_6_0) (fun _ => sh_6_1) (fun _ => sh_6_2) (fun _ => sh_6_3) (fun _ => sh_6_4) (fun _ => sh_6_5) (fun _ => sh_6_6) (fun h => absurd h (by decide))
theorem sh_at7 : ∀ b : Nat, b < 8 → b ≤ 7 → ∀ r : _root_.Fin 8, decide (b ≤ r.1) = true → shB ((7 : Nat) : Int) (b : Int) (r.1 : Int) = true :=
  all8 (P := fun b => b ≤ 7 → ∀ r : _root_.Fin 8, decide (b ≤ r.1) = true → shB ((7 : Nat) : Int) (b : Int) (r.1 : Int) = true) (fun _ => sh_7_0) (fun _ => sh_7_1) (fun _ => sh_7_2) (fun _ => sh_7_3) (fun _ => sh_7_4) (fun _ => sh_7_5) (fun _ => sh_7_6) (fun _ => sh_7_7)
theorem sh_b {l m r : Int} (h0 : 0 ≤ m) (h1 : m ≤ l) (h2 : m ≤ r) (h3 : l < 8) (h4 : r < 8) : shB l m r = true := by
  obtain ⟨a, rfl⟩ : ∃ a : Nat, l = (a : Int) := ⟨l.toNat, by omega⟩
  obtain ⟨b, rfl⟩ : ∃ b : Nat, m = (b : Int) := ⟨m.toNat, by omega⟩
  obtain ⟨c, rfl⟩ : ∃ c : Nat, r = (c : Int) := ⟨r.toNat, by omega⟩
  exact all8 (P := fun a => ∀ b : Nat, b < 8 → b ≤ a → ∀ r : _root_.Fin 8, decide (b ≤ r.1) = true → shB (a : Int) (b : Int) (r.1 : Int) = true) sh_at0 sh_at1 sh_at2 sh_at3 sh_at4 sh_at5 sh_at6 sh_at7
    a (by omega) b (by omega) (by omega) ⟨c, by omega⟩ (decide_eq_true (by show b ≤ c; omega))
structure ShF (l m r : Int) : Prop where
  top : Float64.isFinite (shTop l m r) = true
  topI : tI (shTop l m r) = max l r
  turn : Float64.isFinite (shTurn l m r) = true
  pond : Float64.isFinite (shPond l m r) = true
  turnI : shDepth (max l r - m) (tI (shTurn l m r)) = min l r - m
  pondI : (if r < l then 2 * (max l r - m) - tI (shPond l m r) else tI (shPond l m r)) = min l r - m
  p1 : Float64.isFinite (shPart (shRgb l m r).1) = true
  p2 : Float64.isFinite (shPart (shRgb l m r).2.1) = true
  p3 : Float64.isFinite (shPart (shRgb l m r).2.2) = true
  i1 : tI (shPart (shRgb l m r).1) = r
  i2 : tI (shPart (shRgb l m r).2.1) = l
  i3 : tI (shPart (shRgb l m r).2.2) = m
  c1 : (Float64.cmpInt (shTop l m r) (max l r) == some Ordering.eq) = true
  c2 : (Float64.cmpInt (mul (Float64.ofInt 16) (shHls l m r).2.1) (max l r + m) == some Ordering.eq) = true
  z1 : feq (mn3 (q8 l) (q8 m) (q8 r)) (mx3 (q8 l) (q8 m) (q8 r)) = false → ¬ isZero (mx3 (q8 l) (q8 m) (q8 r)) = true ∧ ¬ isZero (sub (mx3 (q8 l) (q8 m) (q8 r)) (mn3 (q8 l) (q8 m) (q8 r))) = true
  z2 : feq (mn3 (q8 r) (q8 l) (q8 m)) (mx3 (q8 r) (q8 l) (q8 m)) = false → ¬ isZero (sub (mx3 (q8 r) (q8 l) (q8 m)) (mn3 (q8 r) (q8 l) (q8 m))) = true ∧ ¬ isZero (add (mx3 (q8 r) (q8 l) (q8 m)) (mn3 (q8 r) (q8 l) (q8 m))) = true ∧
      ¬ isZero (sub (sub 0x4000000000000000 (mx3 (q8 r) (q8 l) (q8 m))) (mn3 (q8 r) (q8 l) (q8 m))) = true
theorem sh_facts {l m r : Int} (h0 : 0 ≤ m) (h1 : m ≤ l) (h2 : m ≤ r) (h3 : l < 8) (h4 : r < 8) : ShF l m r := by
  have h := sh_b h0 h1 h2 h3 h4
  unfold shB at h
  simp only [Bool.and_eq_true, Bool.or_eq_true, Bool.not_eq_true', beq_iff_eq] at h
  obtain ⟨⟨⟨⟨⟨⟨⟨⟨⟨⟨⟨⟨⟨⟨⟨a1, a2⟩, a3⟩, a4⟩, a5⟩, a6⟩, a7⟩, a8⟩, a9⟩, b1⟩, b2⟩, b3⟩, b4⟩, b5⟩, b6⟩, b7⟩ := h
  refine ⟨a1, a2, a3, a4, a5, a6, a7, a8, a9, b1, b2, b3, beq_iff_eq.mpr b4, beq_iff_eq.mpr b5, fun hz => ?_, fun hz => ?_⟩
  · rcases b6 with b6 | b6
    · rw [b6] at hz; cases hz
    · simpa using b6
  · rcases b7 with b7 | b7
    · rw [b7] at hz; cases hz
    · obtain ⟨⟨c1, c2⟩, c3⟩ := b7
      simp [c1, c2, c3]
end Mine
end
section
-- CompZ
open PySem PySem.W PyProof.Rows PySem.Calls PySem.Spec PyProof.V
set_option Elab.async false
set_option maxRecDepth 100000
set_option maxHeartbeats 4000000
namespace Mine
open LCg
section
variable {prog : Program} {w : World} {A : Around} {E : Value → Shared → Prop} {s : Shared} {env : Env} {h₀ : Heap} {L : Addr} {m : Str → Option Value}
/-- what a comprehension may run over -/
def Over (prog : Program) (w : World) (A : Around) (h₀ : Heap) (L : Addr) (xv : Value) (s₁ : Shared) (n : Nat) (P : Nat → Value → Prop) (S : List (Addr × Obj) → Prop) : Prop :=
  ∀ (m : Str → Option Value) (news : List (Addr × Obj)) (Q E : Value → Shared → Prop), Fr h₀ L s₁.heap m → News h₀ L s₁.heap news → S news →
    (∀ fp St oI, Walks prog w A s₁.heap.objs.size fp [s₁.heap.objs.size] n P St → (∀ i h, St i h → ∃ o, h.get? s₁.heap.objs.size = some o) →
      (∀ i h h' o nw, St i h → h.get? s₁.heap.objs.size = some o → h'.get? s₁.heap.objs.size = some o → (∀ b o, h₀.get? b = some o → h'.get? b = some o) → News h₀ L h' nw → S nw → St i h') →
      St 0 (s₁.heap.push oI) → (∀ b ∈ fp, b < s₁.heap.objs.size + 1) → Q (.ref s₁.heap.objs.size) { s₁ with heap := s₁.heap.push oI }) →
    wpAny (model prog w) A (pyIter xv) Q E s₁
theorem Over.bytes {s₁ : Shared} {b : Array UInt8} {tb : Tok} {ks : List Int} (hk : KBw.bInts b = ks) (hh : A.handled = none) :
    Over prog w A h₀ L (.bytes b tb) s₁ ks.length (fun i v => ∃ t, v = .int (ks.getD i 0) t) (fun _ => True) := by
  subst hk
  intro m news Q E F N _ h
  refine KBw.pyIter_bytes ?_
  have W := KBw.walks (prog := prog) (w := w) (A := A) hh s₁.heap.objs.size b tb
  refine h [s₁.heap.objs.size] (fun i h => KBw.IsBytesIter h s₁.heap.objs.size b tb i) _ ?_ (fun i h st => ⟨_, st.choose_spec.1⟩) (fun i h h' o nw st e e' _ _ _ => ?_) ⟨_, Heap.get?_push_size _ rfl, rfl, rfl⟩ (fun b hb => by rw [List.mem_singleton.mp hb]; exact Nat.lt_succ_self _)
  · rw [KBw.ints_length]
    have conv : ∀ (i : Nat) (v : Value), (∃ c u, b[i]? = some c ∧ v = Value.int (c.toNat : Int) u) → ∃ t, v = Value.int ((KBw.bInts b).getD i 0) t := by
      rintro i v ⟨c, t, hc, rfl⟩
      refine ⟨t, ?_⟩
      rw [List.getD_eq_getElem?_getD, KBw.ints_get hc]
      rfl
    exact ⟨W.sub, W.frame, fun i s Q E hi st hQ => W.item i s Q E hi st fun v h' tk hP => hQ v h' tk (conv i v hP), W.done, W.self⟩
  · obtain ⟨o', q, r⟩ : ∃ o', h.get? s₁.heap.objs.size = some o' ∧ o'.cls = Value.type "bytes_iterator" ∧ _ := st
    obtain rfl := Option.some.inj (q.symm.trans e)
    exact ⟨_, e', r⟩
theorem Over.tuple {s₁ : Shared} {T : Addr} {o : Obj} {its : List Value} (ho : o = { cls := .type "tuple", data := .seq its.toArray }) (hh : A.handled = none) :
    Over prog w A h₀ L (.ref T) s₁ its.length (fun i v => its.toArray[i]? = some v) (fun news => (T, o) ∈ news) := by
  subst ho
  intro m news Q E F N hm h
  have tup : ∀ h' nw, News h₀ L h' nw → (T, ({ cls := .type "tuple", data := .seq its.toArray } : Obj)) ∈ nw → h'.IsTuple T its.toArray := fun h' nw N hm => ⟨_, (N _ hm).1, rfl, _, rfl⟩
  have hT := tup _ _ N hm
  have hne : T ≠ s₁.heap.objs.size := by obtain ⟨_, e, _⟩ := hT; exact Nat.ne_of_lt (Heap.lt_size e)
  have hlt : T < s₁.heap.objs.size := by obtain ⟨_, e, _⟩ := hT; exact Heap.lt_size e
  refine wpAny_pyIter_tuple hT ?_
  have W := Walks.tuple (prog := prog) (w := w) (A := A) hh s₁.heap.objs.size T hne its.toArray
  rw [List.size_toArray] at W
  refine h _ _ _ { sub := W.sub, frame := W.frame, done := W.done, self := W.self, item := fun i s Q E hi st hQ => W.item i s Q E hi st fun v h' tk hP => hQ v h' tk hP } (fun i h st => ?_) (fun i h h' o nw st e e' _ N' hS => ?_) ⟨⟨_, Heap.get?_push_size _ rfl, rfl, rfl⟩, hT.push _⟩ (fun b hb => ?_)
  · obtain ⟨o, e, _⟩ := st.1; exact ⟨o, e⟩
  · obtain ⟨o', q, r⟩ := st.1
    obtain rfl := Option.some.inj (q.symm.trans e)
    exact ⟨⟨_, e', r⟩, tup _ _ N' hS⟩
  · simp only [List.mem_cons, List.not_mem_nil, or_false] at hb
    rcases hb with rfl | rfl
    · exact Nat.lt_succ_self _
    · exact Nat.lt_succ_of_lt hlt
def SrcO (prog : Program) (w : World) (A : Around) (h₀ : Heap) (L : Addr) (m : Str → Option Value) (env : Env) (elt : Expr) (x : Str) (scope : Scope) (cl : List (Str × Addr)) (Fin : Shared → List Value → List (Addr × Obj) → Prop) (xv : Value) (s₁ : Shared) : Prop :=
  ∃ n P S news, Fr h₀ L s₁.heap m ∧ News h₀ L s₁.heap news ∧ S news ∧ n ≤ sizeLine ∧ Over prog w A h₀ L xv s₁ n P S ∧ ∀ g, CompRest prog w A h₀ L m env elt x scope cl { s₁ with heap := g } S P (Fin { s₁ with heap := g }) n 0 [] news
theorem ListComp_O {elt iter : Expr} {x : Str} {px : Pos} {scope : Scope} {cl : List (Str × Addr)} {pos : Pos} {Q : Value → Shared → Prop} (_F₀ : Fr h₀ L s.heap m)
    (hclos : closureFor scope env = pure cl) (hcell : ∀ y ∈ scope.names, y.2 ≠ .cell) (hkind : scope.kind = .function)
    (hnames : ∀ y ∈ scope.names, y.2 = .local → scope.names.lookup y.1 = some .local) (hx : scope.names.lookup x = some .local)
    (h : wpAny (model prog w) A (eval iter env) (fun xv s₁ => Stop (SrcO prog w A h₀ L m env elt x scope cl (fun s₂ => FinE h₀ L m s₂ Q) xv s₁)) E s)
    (hs : ∀ x, foldedSetIterable iter env x = pure x := by intro _; rfl) :
    wpAny (model prog w) A (eval (.ListComp elt [⟨.Name x px, iter, [], 0⟩] scope pos) env) Q E s := by
  rw [eval_ListComp]
  refine wpAny_comprehension_free (use := none) rfl hs hclos hkind hnames (wpAny_mono h (fun xv s₁ h₁ => ?_) fun _ _ e => e)
  obtain ⟨n, P, S, news, F, N, hS, hsz, O, R⟩ := Stop.out h₁
  refine O m news _ _ F N hS fun fp St oI W hIo hSt st0 hfp => ?_
  have up : ∀ b o, s₁.heap.get? b = some o → (s₁.heap.push oI).get? b = some o := fun b o e => Heap.get?_push_of_some _ e
  refine block_U W hsz hIo hSt hcell hkind hx st0 (fun b hb => ?_) (F.keeps up) (N.grown up) (Nat.ne_of_lt F.ns.lt) (next_is_new F) (fun p hp => Nat.ne_of_lt (Heap.lt_size (N p hp).1)) hS (R _) ?_
  · show b < (s₁.heap.push _).objs.size
    rw [Heap.size_push]
    exact hfp b hb
  · intro D C h tk m' ys news' F' N' o1 hn hC₀ hD₀ hCL hDL hCD offC fin
    refine ⟨m', hn, fun h'' hs'' => fin D h'' tk (F'.change hs'' hCL hC₀) (fun p hp => ?_) o1⟩
    refine ⟨hs''.extBut _ _ ?_ (N' p hp).1, (N' p hp).2⟩
    rcases List.mem_cons.mp hp with rfl | hp
    · exact Ne.symm hCD
    · exact offC p hp
theorem Assign_ListComp_O {elt iter : Expr} {x y : Str} {px py : Pos} {scope : Scope} {cl : List (Str × Addr)} {pos spos : Pos} {Q : Flow → Shared → Prop} (_F₀ : Fr h₀ L s.heap m) (hLe : env.locals = L)
    (hsw : swapsWith (.ListComp elt [⟨.Name x px, iter, [], 0⟩] scope pos) (some (.Name y py)) spos.line env = pure true)
    (hclos : closureFor scope env = pure cl) (hcell : ∀ z ∈ scope.names, z.2 ≠ .cell) (hkind : scope.kind = .function)
    (hnames : ∀ z ∈ scope.names, z.2 = .local → scope.names.lookup z.1 = some .local) (hx : scope.names.lookup x = some .local)
    (hy : env.kindOf y = some .local) (hp : (env.scope.kind == .class || (env.scope.kind == .module && env.locals != env.globals)) = false)
    (h : wpAny (model prog w) A (eval iter env) (fun xv s₁ => Stop (SrcO prog w A h₀ L m env elt x scope cl (fun s₂ => FinA h₀ L m s₂ y Q) xv s₁)) E s)
    (hs : ∀ x, foldedSetIterable iter env x = pure x := by intro _; rfl) :
    wpAny (model prog w) A (exec (.Assign [.Name y py] (.ListComp elt [⟨.Name x px, iter, [], 0⟩] scope pos) spos) env) Q E s := by
  subst hLe
  rw [exec_Assign_Name_used _ _ _ _ hsw]
  refine wpAny_bind (wpAny_standAt (wpAny_bind ?_))
  show wpAny _ A (do let _ ← comprehension (.ListComp elt [⟨.Name x px, iter, [], 0⟩] scope pos) scope env _ (newList []) false (eval iter env) (some (assign (.Name y py) env))) _ _ s
  refine wpAny_bind (wpAny_mono (wpAny_comprehension_free (use := some (assign (.Name y py) env)) (Q := fun _ s' => Q .next s') rfl hs hclos hkind hnames
    (wpAny_mono h (fun xv s₁ h₁ => ?_) fun _ _ e => e)) (fun _ s' hq => wpAny_pure (wpAny_pure hq)) fun _ _ e => e)
  obtain ⟨n, P, S, news, F, N, hS, hsz, O, R⟩ := Stop.out h₁
  refine O m news _ _ F N hS fun fp St oI W hIo hSt st0 hfp => ?_
  have up : ∀ b o, s₁.heap.get? b = some o → (s₁.heap.push oI).get? b = some o := fun b o e => Heap.get?_push_of_some _ e
  refine block_U W hsz hIo hSt hcell hkind hx st0 (fun b hb => ?_) (F.keeps up) (N.grown up) (Nat.ne_of_lt F.ns.lt) (next_is_new F) (fun p hp => Nat.ne_of_lt (Heap.lt_size (N p hp).1)) hS (R _) ?_
  · show b < (s₁.heap.push _).objs.size
    rw [Heap.size_push]
    exact hfp b hb
  · intro D C h' tk m' ys news' F' N' o1 hn hC₀ hD₀ hCL hDL hCD offC fin
    show wpAny _ A (assign (.Name y py) env (.ref D)) _ _ _
    refine wpAny_assign_Name (wpAny_storeName_local hy F'.ns (fun h₂ hn₂ hs₂ => ?_) hp)
    have hL₀ : h₀.get? env.locals = none := Heap.get?_none_of_le F'.above
    have F₂ : Fr h₀ env.locals h₂ (fun z => if z = y then some (.ref D) else m z) := ⟨hn₂, fun b o e => hs₂.extBut b o (fun q => by rw [q, hL₀] at e; cases e) (F'.keep b o e), F'.above⟩
    refine ⟨m', hn.sameBut hs₂ hCL, fun h'' hs'' => fin D h'' _ (F₂.change hs'' hCL hC₀) (fun p hp => ?_) o1⟩
    have z : h₂.get? p.1 = some p.2 := hs₂.extBut _ _ (N' p hp).2.1 (N' p hp).1
    refine ⟨hs''.extBut _ _ ?_ z, (N' p hp).2⟩
    rcases List.mem_cons.mp hp with rfl | hp
    · exact Ne.symm hCD
    · exact offC p hp
theorem src_tuple {elt : Expr} {x : Str} {scope : Scope} {cl : List (Str × Addr)} {s₁ : Shared} {news : List (Addr × Obj)} {T : Addr} {its : List Value} {n : Nat} {Fin : Shared → List Value → List (Addr × Obj) → Prop} (F : Fr h₀ L s₁.heap m) (N : News h₀ L s₁.heap news)
    (hm : (T, ({ cls := .type "tuple", data := .seq its.toArray } : Obj)) ∈ news) (hh : A.handled = none) (hn : its.length = n) (hsz : n ≤ sizeLine)
    (R : ∀ g, CompRest prog w A h₀ L m env elt x scope cl { s₁ with heap := g } (fun news => (T, ({ cls := .type "tuple", data := .seq its.toArray } : Obj)) ∈ news) (fun i v => its.toArray[i]? = some v) (Fin { s₁ with heap := g }) n 0 [] news) :
    Stop (SrcO prog w A h₀ L m env elt x scope cl Fin (.ref T) s₁) := by
  subst hn
  exact ⟨_, _, _, _, F, N, hm, hsz, Over.tuple rfl hh, R⟩
theorem src_bytes {elt : Expr} {x : Str} {scope : Scope} {cl : List (Str × Addr)} {s₁ : Shared} {news : List (Addr × Obj)} {b : Array UInt8} {tb : Tok} {ks : List Int} {n : Nat} {Fin : Shared → List Value → List (Addr × Obj) → Prop} (F : Fr h₀ L s₁.heap m) (N : News h₀ L s₁.heap news)
    (hk : KBw.bInts b = ks) (hh : A.handled = none) (hn : ks.length = n) (hsz : n ≤ sizeLine)
    (R : ∀ g, CompRest prog w A h₀ L m env elt x scope cl { s₁ with heap := g } (fun _ => True) (fun i v => ∃ t, v = .int (ks.getD i 0) t) (Fin { s₁ with heap := g }) n 0 [] news) :
    Stop (SrcO prog w A h₀ L m env elt x scope cl Fin (.bytes b tb) s₁) := by
  subst hn
  exact ⟨_, _, _, _, F, N, trivial, hsz, Over.bytes hk hh, R⟩
end
end Mine
end
section
-- Comp2Z
open PySem PySem.W PyProof.Rows PySem.Calls PySem.Spec PyProof.V
set_option Elab.async false
set_option maxRecDepth 100000
set_option maxHeartbeats 4000000
namespace Mine
open LCg
section
variable {prog : Program} {w : World} {A : Around} {E : Value → Shared → Prop} {R : Result → Shared → Prop} {s : Shared}
abbrev comp2 (elt t0 i0 t1 i1 : Expr) (scope : Scope) (pos : Pos) : Expr := .ListComp elt [⟨t0, i0, [], 0⟩, ⟨t1, i1, [], 0⟩] scope pos
theorem turn2_inner (elt t0 i0 t1 i1 : Expr) (scope : Scope) (pos : Pos) (it acc : Value) (env : Env) :
    compTurn (comp2 elt t0 i0 t1 i1 scope pos) 1 it acc env = (standAt i1.pos >>= fun _ => pyNext it >>= fun r => match r with
      | none => pure (.done .next)
      | some v => letOwnedTupleGo t1 it v >>= fun _ => assign t1 env v >>= fun _ =>
        (eval elt env >>= fun x => call (.builtin "list.append") [acc, x] >>= fun _ => pure ()) >>= fun _ =>
          again (.compLoop (comp2 elt t0 i0 t1 i1 scope pos) 1 it acc env)) := by rfl
theorem turn2_outer (elt t0 i0 t1 i1 : Expr) (scope : Scope) (pos : Pos) (it acc : Value) (env : Env) :
    compTurn (comp2 elt t0 i0 t1 i1 scope pos) 0 it acc env = (standAt i0.pos >>= fun _ => pyNext it >>= fun r => match r with
      | none => pure (.done .next)
      | some v => letOwnedTupleGo t0 it v >>= fun _ => assign t0 env v >>= fun _ =>
        eval i1 env >>= fun x => standAt i1.pos >>= fun _ => foldedSetIterable i1 env x >>= fun x => holding [x] (pyIter x) >>= fun it1 => runOwn (.compStart (comp2 elt t0 i0 t1 i1 scope pos) 1 it1 acc env) env >>= fun _ =>
          again (.compLoop (comp2 elt t0 i0 t1 i1 scope pos) 0 it acc env)) := by rfl
theorem loop2_inner {elt t0 i0 t1 i1 : Expr} {scope : Scope} {pos : Pos} {it acc : Value} {env : Env} (I : Nat → Shared → Prop)
    (turn : ∀ n s, I n s → wpAny (model prog w) A (pyNext it) (fun r s₁ => match r with
      | none => R (.ok .next) s₁
      | some v => wpAny (model prog w) A (assign t1 env v) (fun _ s₂ => wpAny (model prog w) A (eval elt env) (fun x s₃ =>
          wpAny (model prog w) A (call (.builtin "list.append") [acc, x]) (fun _ s₄ => ∃ m, m < n ∧ I m s₄) (notedBy (model prog w) A env fun e s' => R (.error e) s') s₃)
          (notedBy (model prog w) A env fun e s' => R (.error e) s') s₂) (notedBy (model prog w) A env fun e s' => R (.error e) s') s₁) (notedBy (model prog w) A env fun e s' => R (.error e) s') s)
    (n : Nat) (h : I n s) (ht : ∀ v, letOwnedTupleGo t1 it v = pure () := by intro _; rfl) :
    codeAny (model prog w) A (.compLoop (comp2 elt t0 i0 t1 i1 scope pos) 1 it acc env) R s := by
  refine codeAny_loop rfl I (fun n s hI => ?_) n h
  show wpAny _ _ ((compTurn (comp2 elt t0 i0 t1 i1 scope pos) 1 it acc env).onRaise (fun x => do noteFrame x env; theTreesLotGoes x)) _ _ s
  refine wpAny_noted ?_
  rw [turn2_inner]
  refine wpAny_bind (wpAny_standAt (wpAny_bind (wpAny_mono (turn n s hI) (fun r s₁ h₁ => ?_) fun _ _ h' => h')))
  cases r with
  | none => exact wpAny_pure h₁
  | some v =>
    refine wpAny_bind (wpAny_of_eq (ht v) ?_)
    exact wpAny_bind (wpAny_mono h₁ (fun _ s₂ h₂ => wpAny_bind (wpAny_bind (wpAny_mono h₂ (fun x s₃ h₃ => wpAny_bind (wpAny_mono h₃
      (fun _ s₄ h₄ => wpAny_pure (wpAny_pure ⟨rfl, h₄⟩)) fun _ _ h' => h')) fun _ _ h' => h'))) fun _ _ h' => h')
theorem start2_inner {elt t0 i0 t1 i1 scope pos it acc env}
    (h0 : codeAny (model prog w) A (.compLoop (comp2 elt t0 i0 t1 i1 scope pos) 1 it acc env) R s)
    (h : wpAny (model prog w) A (pyIter it) (fun it' s' => codeAny (model prog w) A (.compLoop (comp2 elt t0 i0 t1 i1 scope pos) 1 it' acc env) R s')
      (notedBy (model prog w) A env fun x s' => R (.error x) s') s) :
    codeAny (model prog w) A (.compStart (comp2 elt t0 i0 t1 i1 scope pos) 1 it acc env) R s := by
  refine codeAny_of_tree ?_
  show wpAny _ _ ((compStart (comp2 elt t0 i0 t1 i1 scope pos) 1 it acc env).onRaise (fun x => do noteFrame x env; standAt theWindowsPlace)) _ _ s
  refine wpAny_notedAt ?_
  unfold compStart
  show wpAny _ _ (ask >>= _) _ _ s
  refine wpAny_bind (wpAny_askSetting (wpAny_ite ?_))
  split
  · first
      | exact wpAny_bind (wpAny_pure (wpAny_pure (And.intro rfl h0)))
      | exact wpAny_pure (And.intro rfl h0)
  · first
      | exact wpAny_bind (wpAny_rule (wpAny_bind (wpAny_standAt (wpAny_bind (wpAny_mono h (fun it' s' h' => wpAny_pure (And.intro rfl h')) fun _ _ x => x)))))
      | (refine wpAny_bind (wpAny_rule ?_); show wpAny _ _ (standAt i1.pos >>= _) _ _ s; exact wpAny_bind (wpAny_standAt (wpAny_bind (wpAny_mono h (fun it' s' h' => wpAny_pure (And.intro rfl h')) fun _ _ x => x))))
theorem loop2_outer {elt t0 i0 t1 i1 : Expr} {scope : Scope} {pos : Pos} {it acc : Value} {env : Env} (I : Nat → Shared → Prop)
    (turn : ∀ n s, I n s → wpAny (model prog w) A (pyNext it) (fun r s₁ => match r with
      | none => R (.ok .next) s₁
      | some v => wpAny (model prog w) A (assign t0 env v) (fun _ s₂ => wpAny (model prog w) A (eval i1 env) (fun x s₃ =>
          wpAny (model prog w) A (pyIter x) (fun it1 s₄ => codeAny (model prog w) A (.compStart (comp2 elt t0 i0 t1 i1 scope pos) 1 it1 acc env)
              (fun r s₅ => match r with | .ok _ => ∃ m, m < n ∧ I m s₅ | .error e => cameBackBy (model prog w) A env (notedBy (model prog w) A env fun e s' => R (.error e) s') e s₅) s₄) (notedBy (model prog w) A env fun e s' => R (.error e) s') s₃)
          (notedBy (model prog w) A env fun e s' => R (.error e) s') s₂) (notedBy (model prog w) A env fun e s' => R (.error e) s') s₁) (notedBy (model prog w) A env fun e s' => R (.error e) s') s)
    (n : Nat) (h : I n s) (ht : ∀ v, letOwnedTupleGo t0 it v = pure () := by intro _; rfl) (hf : ∀ x, foldedSetIterable i1 env x = pure x := by intro _; rfl) :
    codeAny (model prog w) A (.compLoop (comp2 elt t0 i0 t1 i1 scope pos) 0 it acc env) R s := by
  refine codeAny_loop rfl I (fun n s hI => ?_) n h
  show wpAny _ _ ((compTurn (comp2 elt t0 i0 t1 i1 scope pos) 0 it acc env).onRaise (fun x => do noteFrame x env; theTreesLotGoes x)) _ _ s
  refine wpAny_noted ?_
  rw [turn2_outer]
  refine wpAny_bind (wpAny_standAt (wpAny_bind (wpAny_mono (turn n s hI) (fun r s₁ h₁ => ?_) fun _ _ h' => h')))
  cases r with
  | none => exact wpAny_pure h₁
  | some v =>
    refine wpAny_bind (wpAny_of_eq (ht v) ?_)
    refine wpAny_bind (wpAny_mono h₁ (fun _ s₂ h₂ => wpAny_bind (wpAny_mono h₂ (fun x s₃ h₃ => ?_) fun _ _ h' => h')) fun _ _ h' => h')
    refine wpAny_bind (wpAny_standAt (wpAny_bind (wpAny_of_eq (hf x) (wpAny_bind (wpAny_holding (wpAny_mono h₃ (fun it1 s₄ h₄ => ?_) fun _ _ h' => h'))))))
    refine wpAny_bind (wpAny_runOwn (codeAny_mono h₄ fun r s₅ h₅ => ?_))
    cases r with
    | ok f => exact wpAny_pure ⟨rfl, h₅⟩
    | error e => exact h₅
variable {env : Env}
def flatN (tl : Nat → List Value) (i : Nat) : List Value := (List.range i).flatMap tl
theorem flatN_succ (tl : Nat → List Value) (i : Nat) : flatN tl (i + 1) = flatN tl i ++ tl i := by
  unfold flatN
  rw [List.range_succ, List.flatMap_append, List.flatMap_singleton]
theorem flatN_len {tl : Nat → List Value} (h : ∀ i, (tl i).length ≤ 100) : ∀ i, (flatN tl i).length ≤ 100 * i
  | 0 => Nat.le_refl _
  | i + 1 => by
    have h1 := flatN_len h i
    have h2 := h i
    rw [flatN_succ, List.length_append]
    omega
theorem flat_block {iter i1 : Expr} {x y : Str} {px py pe : Pos} {scope : Scope} {cl : List (Str × Addr)} {pos : Pos} {s₂ : Shared} {I ax : Addr} {its : Array Value} {tl : Nat → List Value} {low : Heap}
    {RR : Value → Addr → Result → Shared → Prop} (hh : A.handled = none) (hst : s₂.heap.IsListIter I ax 0) (hl : s₂.heap.IsList ax its) (hne : ax ≠ I) (hn : its.size ≤ 100) (htl : ∀ i, (tl i).length ≤ 100)
    (hold : ∀ b o, low.get? b = some o → b ≠ I ∧ s₂.heap.get? b = some o)
    (hcell : ∀ y ∈ scope.names, y.2 ≠ .cell) (hkind : scope.kind = .function) (hx : scope.names.lookup x = some .local) (hy : scope.names.lookup y = some .local) (hyd : (y == ("__debug__" : Str)) = false)
    (hin : ∀ C i s₃ m₂ E', i < its.size → s₃.heap.Ns (compEnvC scope cl C env).locals m₂ → m₂ x = its[i]? → (∀ b o, low.get? b = some o → s₃.heap.get? b = some o) →
      wpAny (model prog w) A (eval i1 (compEnvC scope cl C env)) (fun xv s₄ => ∃ T, xv = .ref T ∧ s₄.heap.IsTuple T (tl i).toArray ∧ Keeps s₃ s₄) E' s₃)
    (hRR : ∀ D C h tk m', h.get? D = some (lst (flatN tl its.size)) → h.Ns C m' → C ≠ D → (∀ b o, low.get? b = some o → b ≠ C ∧ b ≠ D ∧ h.get? b = some o) → s₂.heap.get? D = none → s₂.heap.get? C = none → RR (.ref D) C (.ok .next) { s₂ with heap := h, toks := tk })
    (hf : ∀ C x, foldedSetIterable i1 (compEnvC scope cl C env) x = pure x) :
    wpAny (model prog w) A (newList []) (fun acc s₃ => wpAny (model prog w) A (newFunctionEnv scope env.globals cl [] env.qual none .none (some env)) (fun cenv s₄ =>
      codeAny (model prog w) A (.compStart (comp2 (.Name y pe) (.Name x px) iter (.Name y py) i1 scope pos) 0 (.ref I) acc { cenv with scope := relabel scope env }) (RR acc cenv.locals) s₄) E s₃) E s₂ := by
  refine wpAny_newObj_type (wpAny_newFunctionEnv hcell (by intro y hy; simp at hy) (fun h₁ hns₁ hsb₁ => ?_) hkind)
  dsimp only at hns₁ hsb₁ ⊢
  generalize hH2 : s₂.heap.push { cls := .type "list", dict := none, data := .seq ([] : List Value).toArray } = H2 at hns₁ hsb₁ ⊢
  have hC : H2.objs.size = s₂.heap.objs.size + 1 := by rw [← hH2, Heap.size_push]
  have hlt : ∀ b o, s₂.heap.get? b = some o → b ≠ H2.objs.size ∧ b ≠ s₂.heap.objs.size := fun b o e => ⟨by rw [hC]; exact Nat.ne_of_lt (Nat.lt_succ_of_lt (Heap.lt_size e)), Nat.ne_of_lt (Heap.lt_size e)⟩
  have hDn : s₂.heap.get? s₂.heap.objs.size = none := by
    cases e : s₂.heap.get? s₂.heap.objs.size with
    | none => rfl
    | some o => exact absurd (Heap.lt_size e) (Nat.lt_irrefl _)
  have hCn : s₂.heap.get? H2.objs.size = none := by
    cases e : s₂.heap.get? H2.objs.size with
    | none => rfl
    | some o => exact absurd rfl (hlt _ _ e).1
  have hDC : s₂.heap.objs.size ≠ H2.objs.size := by rw [hC]; exact Nat.ne_of_lt (Nat.lt_succ_self _)
  have old : ∀ b o, s₂.heap.get? b = some o → h₁.get? b = some o := fun b o e => hsb₁.extBut b o (hlt b o e).1 (Heap.get?_push_of_some _ (hH2 ▸ Heap.get?_push_of_some _ e))
  have hacc : h₁.get? s₂.heap.objs.size = some (lst []) := hsb₁.extBut _ _ hDC (Heap.get?_push_of_some _ (hH2 ▸ Heap.get?_push_size _ rfl))
  generalize hDe : s₂.heap.objs.size = D at *
  generalize hCe : H2.objs.size = C at *
  have hID : I ≠ D ∧ I ≠ C := by obtain ⟨o, e, _⟩ := hst; exact ⟨(hlt _ _ e).2, (hlt _ _ e).1⟩
  have hxD : ax ≠ D ∧ ax ≠ C := by obtain ⟨o, e, _⟩ := hl; exact ⟨(hlt _ _ e).2, (hlt _ _ e).1⟩
  have W := Walks.list (prog := prog) (w := w) (A := A) hh I ax hne its
  have st1 : h₁.IsListIter I ax 0 ∧ h₁.IsList ax its := W.frame 0 _ _ ⟨hst, hl⟩ fun b _ o e => old b o e
  have hold₁ : ∀ b o, low.get? b = some o → b ≠ I ∧ b ≠ C ∧ b ≠ D ∧ h₁.get? b = some o := fun b o e =>
    ⟨(hold b o e).1, (hlt b o (hold b o e).2).1, (hlt b o (hold b o e).2).2, old b o (hold b o e).2⟩
  have loop : ∀ s₃ : Shared, s₃ = { s₂ with heap := h₁, toks := s₂.toks + ([] : List (Str × Value)).length } →
      codeAny (model prog w) A (.compLoop (comp2 (.Name y pe) (.Name x px) iter (.Name y py) i1 scope pos) 0 (.ref I) (.ref D) (compEnvC scope cl C env)) (RR (.ref D) C) s₃ := by
    rintro s₃ rfl
    refine loop2_outer (fun k s' => ∃ h' tk i m', s' = { s₂ with heap := h', toks := tk } ∧ i ≤ its.size ∧ k = its.size + 1 - i ∧ (h'.IsListIter I ax i ∧ h'.IsList ax its) ∧ h'.get? D = some (lst (flatN tl i)) ∧ h'.Ns C m' ∧ (∀ b o, low.get? b = some o → h'.get? b = some o))
      ?_ (its.size + 1) ⟨h₁, _, 0, _, rfl, Nat.zero_le _, rfl, st1, hacc, hns₁, fun b o e => (hold₁ b o e).2.2.2⟩ (by intro _; rfl) (hf C)
    rintro k s' ⟨h', tk, i, m', rfl, hi, rfl, hst', hD', hC', ho'⟩
    by_cases hlt' : i < its.size
    · refine W.item i _ _ _ hlt' hst' fun v h₂ tk₂ hPv hst₂ hk₂ => ?_
      have nI : ∀ {b : Addr}, b ≠ I → b ∉ [I] := fun hb hm => hb (List.mem_singleton.mp hm)
      refine wpAny_assign_Name (wpAny_storeName_local (lookup_relabel_local hx) (hC'.at' fun o e => hk₂ _ o (nI (Ne.symm hID.2)) e) (fun h₃ hn₃ hs₃ => ?_) (by simp [compEnvC, relabel, hkind]))
      have ho₃ : ∀ b o, low.get? b = some o → h₃.get? b = some o := fun b o e => hs₃.extBut b o (hold₁ b o e).2.1 (hk₂ b o (nI (hold₁ b o e).1) (ho' b o e))
      have hst₃ : h₃.IsListIter I ax (i + 1) ∧ h₃.IsList ax its := ⟨hst₂.1.at fun o e => hs₃.extBut _ _ hID.2 e, hst₂.2.at fun o e => hs₃.extBut _ _ hxD.2 e⟩
      have hD₃ : h₃.get? D = some (lst (flatN tl i)) := hs₃.extBut _ _ hDC (hk₂ _ _ (nI (Ne.symm hID.1)) hD')
      refine wpAny_mono (hin C i _ _ _ hlt' hn₃ (by rw [if_pos rfl]; exact hPv.symm) ho₃) (fun xv s₄ h₄ => ?_) fun _ _ e => e
      obtain ⟨T, rfl, hT, h₄', tk₄, rfl, k₄⟩ := h₄
      replace hT : h₄'.IsTuple T (tl i).toArray := hT
      replace k₄ : ∀ b o, h₃.get? b = some o → h₄'.get? b = some o := k₄
      replace hn₃ : h₃.Ns C _ := hn₃
      refine wpAny_pyIter_tuple hT ?_
      have hT0 : T < h₄'.objs.size := by obtain ⟨o, e, _⟩ := hT; exact Heap.lt_size e
      have hTn : T ≠ h₄'.objs.size := Nat.ne_of_lt hT0
      have V := Walks.tuple (prog := prog) (w := w) (A := A) hh h₄'.objs.size T hTn (tl i).toArray
      have hTL : T ≠ D ∧ T ≠ C ∧ T ≠ I := by
        obtain ⟨o, e, hc, n, hd⟩ := id hT
        refine ⟨?_, ?_, ?_⟩
        · intro eT
          rw [eT] at e
          obtain rfl := Option.some.inj ((k₄ _ _ hD₃).symm.trans e)
          exact absurd (Value.type.inj hc) (by decide)
        · intro eT
          rw [eT] at e
          obtain ⟨o', es, ep, e', hd', _⟩ := hn₃
          obtain rfl := Option.some.inj ((k₄ _ _ e').symm.trans e)
          rw [hd'] at hd; cases hd
        · intro eT
          rw [eT] at e
          obtain ⟨o', e', hc', _⟩ := hst₃.1
          obtain rfl := Option.some.inj ((k₄ _ _ e').symm.trans e)
          exact absurd (Value.type.inj (hc'.symm.trans hc)) (by decide)
      have fresh : ∀ b o, h₄'.get? b = some o → b ≠ h₄'.objs.size := fun b o e => Nat.ne_of_lt (Heap.lt_size e)
      have hD₄ := k₄ _ _ hD₃
      have hC₄ : h₄'.Ns C _ := hn₃.at' fun o e => k₄ _ o e
      have hst₄ : h₄'.IsListIter I ax (i + 1) ∧ h₄'.IsList ax its := ⟨hst₃.1.at fun o e => k₄ _ _ e, hst₃.2.at fun o e => k₄ _ _ e⟩
      have ho₄ : ∀ b o, low.get? b = some o → h₄'.get? b = some o := fun b o e => k₄ _ _ (ho₃ b o e)
      have hJ : D ≠ h₄'.objs.size ∧ C ≠ h₄'.objs.size ∧ I ≠ h₄'.objs.size ∧ ax ≠ h₄'.objs.size := by
        refine ⟨fresh _ _ hD₄, ?_, ?_, ?_⟩
        · obtain ⟨o', es, ep, e', _⟩ := hC₄; exact fresh _ _ e'
        · obtain ⟨o', e', _⟩ := hst₄.1; exact fresh _ _ e'
        · obtain ⟨o', e', _⟩ := hst₄.2; exact fresh _ _ e'
      have hJo : ∀ b o, low.get? b = some o → b ≠ h₄'.objs.size := fun b o e => fresh _ _ (ho₄ b o e)
      have up : ∀ b o, h₄'.get? b = some o → (h₄'.push { cls := .type "tuple_iterator", data := .fields #[.ref T, .int 0 0] }).get? b = some o := fun b o e => Heap.get?_push_of_some _ e
      have hJi : (h₄'.push { cls := .type "tuple_iterator", data := .fields #[.ref T, .int 0 0] }).IsTupleIter h₄'.objs.size T 0 := ⟨_, Heap.get?_push_size _ rfl, rfl, rfl⟩
      generalize hJe : h₄'.objs.size = J at *
      have hll := htl i
      have hfl := flatN_len htl i
      have inner : ∀ s₅ : Shared, s₅ = { s₂ with heap := h₄'.push { cls := .type "tuple_iterator", data := .fields #[.ref T, .int 0 0] }, toks := tk₄ } →
          codeAny (model prog w) A (.compLoop (comp2 (.Name y pe) (.Name x px) iter (.Name y py) i1 scope pos) 1 (.ref J) (.ref D) (compEnvC scope cl C env))
            (fun r s₅ => match r with
              | .ok _ => ∃ m, m < its.size + 1 - i ∧ ∃ h' tk i m', s₅ = { s₂ with heap := h', toks := tk } ∧ i ≤ its.size ∧ m = its.size + 1 - i ∧ (h'.IsListIter I ax i ∧ h'.IsList ax its) ∧ h'.get? D = some (lst (flatN tl i)) ∧ h'.Ns C m' ∧ (∀ b o, low.get? b = some o → h'.get? b = some o)
              | .error e => cameBackBy (model prog w) A (compEnvC scope cl C env) (notedBy (model prog w) A (compEnvC scope cl C env) fun e s' => RR (.ref D) C (.error e) s') e s₅) s₅ := by
        rintro s₅ rfl
        refine loop2_inner (fun q s' => ∃ h' tk j m', s' = { s₂ with heap := h', toks := tk } ∧ j ≤ (tl i).length ∧ q = (tl i).length + 1 - j ∧ (h'.IsTupleIter J T j ∧ h'.IsTuple T (tl i).toArray) ∧ (h'.IsListIter I ax (i + 1) ∧ h'.IsList ax its) ∧
            h'.get? D = some (lst (flatN tl i ++ (tl i).take j)) ∧ h'.Ns C m' ∧ (∀ b o, low.get? b = some o → h'.get? b = some o)) ?_ ((tl i).length + 1)
          ⟨_, _, 0, _, rfl, Nat.zero_le _, rfl, ⟨hJi, hT.push _⟩, ⟨hst₄.1.at fun o e => up _ _ e, hst₄.2.at fun o e => up _ _ e⟩, by rw [List.take_zero, List.append_nil]; exact up _ _ hD₄, hC₄.at' fun o e => up _ _ e, fun b o e => up _ _ (ho₄ b o e)⟩ (by intro _; rfl)
        rintro q s' ⟨g₁, tk₁, j, m₁, rfl, hj, rfl, hv₁, hl₁, hd₁, hc₁, hw₁⟩
        have nJ : ∀ {b : Addr}, b ≠ J → b ∉ [J] := fun hb hm => hb (List.mem_singleton.mp hm)
        by_cases hjl : j < (tl i).length
        · refine V.item j _ _ _ (by simpa using hjl) hv₁ fun v g₂ tk₂ hPv hv₂ hk₂ => ?_
          refine wpAny_assign_Name (wpAny_storeName_local (lookup_relabel_local hy) (hc₁.at' fun o e => hk₂ _ o (nJ hJ.2.1) e) (fun g₃ hc₃ hs₃ => ?_) (by simp [compEnvC, relabel, hkind]))
          refine ldVarK hc₃ (if_pos rfl) ?_ hkind (lookup_relabel_local hy) hyd
          have hd₃ : g₃.get? D = some (lst (flatN tl i ++ (tl i).take j)) := hs₃.extBut _ _ hDC (hk₂ _ _ (nJ hJ.1) hd₁)
          refine append_at (hsz := by
            show (flatN tl i ++ (tl i).take j).toArray.size ≤ sizeLine
            rw [List.size_toArray, List.length_append, List.length_take, sizeLine_eq]; omega) hd₃ fun g₄ hs₄ hd₄ => ?_
          have hg : (tl i)[j]? = some v := by simpa using hPv
          refine ⟨(tl i).length + 1 - (j + 1), by omega, g₄, _, j + 1, _, rfl, hjl, rfl, ⟨(hv₂.1.at fun o e => hs₃.extBut _ _ (Ne.symm hJ.2.1) e).at fun o e => hs₄.extBut _ _ (Ne.symm hJ.1) e, (hv₂.2.at fun o e => hs₃.extBut _ _ hTL.2.1 e).at fun o e => hs₄.extBut _ _ hTL.1 e⟩,
            ⟨((hl₁.1.at fun o e => hk₂ _ _ (nJ hJ.2.2.1) e).at fun o e => hs₃.extBut _ _ hID.2 e).at fun o e => hs₄.extBut _ _ hID.1 e, ((hl₁.2.at fun o e => hk₂ _ _ (nJ hJ.2.2.2) e).at fun o e => hs₃.extBut _ _ hxD.2 e).at fun o e => hs₄.extBut _ _ hxD.1 e⟩, ?_,
            hc₃.sameBut hs₄ (Ne.symm hDC), fun b o e => hs₄.extBut _ _ (hold₁ b o e).2.2.1 (hs₃.extBut _ _ (hold₁ b o e).2.1 (hk₂ _ _ (nJ (hJo b o e)) (hw₁ b o e)))⟩
          rw [hd₄]
          refine congrArg some ((lst_snoc _ v).trans ?_)
          rw [List.take_add_one, hg, List.append_assoc]
          rfl
        · obtain rfl : j = (tl i).length := Nat.le_antisymm hj (Nat.not_lt.mp hjl)
          refine V.done _ _ _ (by simpa using hv₁) fun g₂ tk₂ hk₂ => ?_
          refine ⟨its.size + 1 - (i + 1), by omega, g₂, tk₂, i + 1, m₁, rfl, hlt', rfl, ⟨hl₁.1.at fun o e => hk₂ _ _ (nJ hJ.2.2.1) e, hl₁.2.at fun o e => hk₂ _ _ (nJ hJ.2.2.2) e⟩, ?_, hc₁.at' fun o e => hk₂ _ o (nJ hJ.2.1) e, fun b o e => hk₂ _ _ (nJ (hJo b o e)) (hw₁ b o e)⟩
          rw [flatN_succ, hk₂ _ _ (nJ hJ.1) hd₁, List.take_length]
      exact start2_inner (inner _ rfl) (V.self 0 _ _ _ ⟨hJi, hT.push _⟩ (inner _ rfl))
    · obtain rfl : i = its.size := Nat.le_antisymm hi (Nat.not_lt.mp hlt')
      refine W.done _ _ _ hst' fun h₂ tk₂ hk₂ => ?_
      have nI : ∀ {b : Addr}, b ≠ I → b ∉ [I] := fun hb hm => hb (List.mem_singleton.mp hm)
      exact hRR D C h₂ tk₂ m' (hk₂ _ _ (nI (Ne.symm hID.1)) hD') (hC'.at' fun o e => hk₂ _ o (nI (Ne.symm hID.2)) e) (Ne.symm hDC) (fun b o e => ⟨(hold₁ b o e).2.1, (hold₁ b o e).2.2.1, hk₂ _ _ (nI (hold₁ b o e).1) (ho' b o e)⟩) hDn hCn
  exact codeAny_compStart_list (loop _ rfl) (W.self 0 _ _ _ st1 (loop _ rfl))
variable {h₀ : Heap} {L : Addr} {m : Str → Option Value}
theorem ListComp_flat {iter i1 : Expr} {x y : Str} {px py pe : Pos} {scope : Scope} {cl : List (Str × Addr)} {pos : Pos} {Q : Value → Shared → Prop} (_F₀ : Fr h₀ L s.heap m)
    (hclos : closureFor scope env = pure cl) (hcell : ∀ y ∈ scope.names, y.2 ≠ .cell) (hkind : scope.kind = .function)
    (hnames : ∀ y ∈ scope.names, y.2 = .local → scope.names.lookup y.1 = some .local) (hx : scope.names.lookup x = some .local) (hy : scope.names.lookup y = some .local) (hyd : (y == ("__debug__" : Str)) = false)
    (h : wpAny (model prog w) A (eval iter env) (fun xv s₁ => Stop (∃ (ax : Addr) (its : Array Value) (n : Nat) (tl : Nat → List Value) (news : List (Addr × Obj)), xv = .ref ax ∧ A.handled = none ∧ Fr h₀ L s₁.heap m ∧ News h₀ L s₁.heap news ∧ (ax, W.listOf its n) ∈ news ∧ its.size ≤ 100 ∧ (∀ i, (tl i).length ≤ 100) ∧
      (∀ C i s₃ m₂ E', i < its.size → s₃.heap.Ns (compEnvC scope cl C env).locals m₂ → m₂ x = its[i]? → (∀ b o, s₁.heap.get? b = some o → s₃.heap.get? b = some o) →
        wpAny (model prog w) A (eval i1 (compEnvC scope cl C env)) (fun xv s₄ => ∃ T, xv = .ref T ∧ s₄.heap.IsTuple T (tl i).toArray ∧ Keeps s₃ s₄) E' s₃) ∧
      (∀ D h tk, Fr h₀ L h m → News h₀ L h ((D, lst (flatN tl its.size)) :: news) → (∀ p ∈ news, p.1 ≠ D) → Q (.ref D) { s₁ with heap := h, toks := tk }))) E s)
    (hs : ∀ x, foldedSetIterable iter env x = pure x) (hf : ∀ C x, foldedSetIterable i1 (compEnvC scope cl C env) x = pure x) :
    wpAny (model prog w) A (eval (comp2 (.Name y pe) (.Name x px) iter (.Name y py) i1 scope pos) env) Q E s := by
  rw [eval_ListComp]
  refine wpAny_comprehension_free (use := none) rfl hs hclos hkind hnames (wpAny_mono h (fun xv s₁ h₁ => ?_) fun _ _ e => e)
  obtain ⟨ax, its, n, tl, news, rfl, hh, F, N, hm, hn, htl, hin, hQ⟩ := Stop.out h₁
  have hl : s₁.heap.IsList ax its := ⟨_, (N _ hm).1, rfl, _, rfl⟩
  have hlt : ax < s₁.heap.objs.size := by obtain ⟨_, e, _⟩ := hl; exact Heap.lt_size e
  refine wpAny_pyIter_list hl ?_
  have up : ∀ b o, s₁.heap.get? b = some o → (s₁.heap.push { cls := .type "list_iterator", data := .fields #[.ref ax, .int 0 0] }).get? b = some o := fun b o e => Heap.get?_push_of_some _ e
  refine flat_block (low := s₁.heap) hh ⟨_, Heap.get?_push_size _ rfl, rfl, rfl⟩ (hl.push _) (Nat.ne_of_lt hlt) hn htl (fun b o e => ⟨Nat.ne_of_lt (Heap.lt_size e), up b o e⟩) hcell hkind hx hy hyd hin ?_ hf
  intro D C h tk m' hD hC hCD hk hDn hCn
  have none₀ : ∀ b, (s₁.heap.push { cls := .type "list_iterator", data := .fields #[.ref ax, .int 0 0] }).get? b = none → h₀.get? b = none := fun b hb => by
    cases e : h₀.get? b with
    | none => rfl
    | some o => rw [up b o (F.keep b o e)] at hb; cases hb
  obtain ⟨oL, esL, epL, hLo, hLr⟩ := F.ns
  have hLC : C ≠ L := Ne.symm (hk _ _ hLo).1
  have hLD : D ≠ L := Ne.symm (hk _ _ hLo).2.1
  refine ⟨m', hC, fun h'' hs'' => ?_⟩
  have keep : ∀ b o, s₁.heap.get? b = some o → h''.get? b = some o := fun b o e => hs''.extBut b o (hk b o e).1 (hk b o e).2.2
  refine hQ D h'' tk ⟨⟨oL, esL, epL, keep _ _ hLo, hLr⟩, fun b o e => keep b o (F.keep b o e), F.above⟩ (fun p hp => ?_) (fun p hp => (hk _ _ (N p hp).1).2.1)
  rcases List.mem_cons.mp hp with rfl | hp
  · exact ⟨hs''.extBut _ _ (Ne.symm hCD) hD, hLD, none₀ _ hDn⟩
  · exact ⟨keep _ _ (N p hp).1, (N p hp).2⟩
end
end Mine
end
section
-- Comp3Z
open PySem PySem.W PyProof.Rows PySem.Calls PySem.Spec PyProof.V
set_option Elab.async false
set_option maxRecDepth 100000
set_option maxHeartbeats 4000000
namespace Mine
open LCg
section
variable {prog : Program} {w : World} {A : Around} {E : Value → Shared → Prop} {s : Shared} {env : Env}
theorem map_block {elt iter : Expr} {x : Str} {px : Pos} {scope : Scope} {cl : List (Str × Addr)} {pos : Pos} {s₂ : Shared} {I ax : Addr} {its : Array Value} {f : Nat → Value → Prop} {low : Heap}
    {RR : Value → Addr → Result → Shared → Prop} (hh : A.handled = none) (hst : s₂.heap.IsListIter I ax 0) (hl : s₂.heap.IsList ax its) (hne : ax ≠ I) (hn : its.size ≤ 100)
    (hold : ∀ b o, low.get? b = some o → b ≠ I ∧ s₂.heap.get? b = some o)
    (hcell : ∀ y ∈ scope.names, y.2 ≠ .cell) (hkind : scope.kind = .function) (hx : scope.names.lookup x = some .local)
    (hin : ∀ C i s₃ m₂ E', i < its.size → s₃.heap.Ns (compEnvC scope cl C env).locals m₂ → m₂ x = its[i]? → (∀ b o, low.get? b = some o → s₃.heap.get? b = some o) →
      wpAny (model prog w) A (eval elt (compEnvC scope cl C env)) (fun y s₄ => f i y ∧ Keeps s₃ s₄) E' s₃)
    (hRR : ∀ D C h tk m' ys, ys.length = its.size → (∀ (i : Nat) v, ys[i]? = some v → f i v) → h.get? D = some (lst ys) → h.Ns C m' → C ≠ D → (∀ b o, low.get? b = some o → b ≠ C ∧ b ≠ D ∧ h.get? b = some o) → s₂.heap.get? D = none → s₂.heap.get? C = none → RR (.ref D) C (.ok .next) { s₂ with heap := h, toks := tk }) :
    wpAny (model prog w) A (newList []) (fun acc s₃ => wpAny (model prog w) A (newFunctionEnv scope env.globals cl [] env.qual none .none (some env)) (fun cenv s₄ =>
      codeAny (model prog w) A (.compStart (.ListComp elt [⟨.Name x px, iter, [], 0⟩] scope pos) 0 (.ref I) acc { cenv with scope := relabel scope env }) (RR acc cenv.locals) s₄) E s₃) E s₂ := by
  refine wpAny_newObj_type (wpAny_newFunctionEnv hcell (by intro y hy; simp at hy) (fun h₁ hns₁ hsb₁ => ?_) hkind)
  dsimp only at hns₁ hsb₁ ⊢
  generalize hH2 : s₂.heap.push { cls := .type "list", dict := none, data := .seq ([] : List Value).toArray } = H2 at hns₁ hsb₁ ⊢
  have hC : H2.objs.size = s₂.heap.objs.size + 1 := by rw [← hH2, Heap.size_push]
  have hlt : ∀ b o, s₂.heap.get? b = some o → b ≠ H2.objs.size ∧ b ≠ s₂.heap.objs.size := fun b o e => ⟨by rw [hC]; exact Nat.ne_of_lt (Nat.lt_succ_of_lt (Heap.lt_size e)), Nat.ne_of_lt (Heap.lt_size e)⟩
  have hDn : s₂.heap.get? s₂.heap.objs.size = none := by
    cases e : s₂.heap.get? s₂.heap.objs.size with
    | none => rfl
    | some o => exact absurd (Heap.lt_size e) (Nat.lt_irrefl _)
  have hCn : s₂.heap.get? H2.objs.size = none := by
    cases e : s₂.heap.get? H2.objs.size with
    | none => rfl
    | some o => exact absurd rfl (hlt _ _ e).1
  have hDC : s₂.heap.objs.size ≠ H2.objs.size := by rw [hC]; exact Nat.ne_of_lt (Nat.lt_succ_self _)
  have old : ∀ b o, s₂.heap.get? b = some o → h₁.get? b = some o := fun b o e => hsb₁.extBut b o (hlt b o e).1 (Heap.get?_push_of_some _ (hH2 ▸ Heap.get?_push_of_some _ e))
  have hacc : h₁.get? s₂.heap.objs.size = some (lst []) := hsb₁.extBut _ _ hDC (Heap.get?_push_of_some _ (hH2 ▸ Heap.get?_push_size _ rfl))
  generalize hDe : s₂.heap.objs.size = D at *
  generalize hCe : H2.objs.size = C at *
  have hID : I ≠ D ∧ I ≠ C := by obtain ⟨o, e, _⟩ := hst; exact ⟨(hlt _ _ e).2, (hlt _ _ e).1⟩
  have hxD : ax ≠ D ∧ ax ≠ C := by obtain ⟨o, e, _⟩ := hl; exact ⟨(hlt _ _ e).2, (hlt _ _ e).1⟩
  have W := Walks.list (prog := prog) (w := w) (A := A) hh I ax hne its
  have st1 : h₁.IsListIter I ax 0 ∧ h₁.IsList ax its := W.frame 0 _ _ ⟨hst, hl⟩ fun b _ o e => old b o e
  have hold₁ : ∀ b o, low.get? b = some o → b ≠ I ∧ b ≠ C ∧ b ≠ D ∧ h₁.get? b = some o := fun b o e =>
    ⟨(hold b o e).1, (hlt b o (hold b o e).2).1, (hlt b o (hold b o e).2).2, old b o (hold b o e).2⟩
  have loop : ∀ s₃ : Shared, s₃ = { s₂ with heap := h₁, toks := s₂.toks + ([] : List (Str × Value)).length } →
      codeAny (model prog w) A (.compLoop (.ListComp elt [⟨.Name x px, iter, [], 0⟩] scope pos) 0 (.ref I) (.ref D) (compEnvC scope cl C env)) (RR (.ref D) C) s₃ := by
    rintro s₃ rfl
    refine codeAny_compLoop_list (fun k s' => ∃ h' tk i m' ys, s' = { s₂ with heap := h', toks := tk } ∧ i ≤ its.size ∧ k = its.size + 1 - i ∧ (h'.IsListIter I ax i ∧ h'.IsList ax its) ∧ ys.length = i ∧ (∀ (j : Nat) v, ys[j]? = some v → f j v) ∧ h'.get? D = some (lst ys) ∧ h'.Ns C m' ∧ (∀ b o, low.get? b = some o → h'.get? b = some o))
      ?_ (its.size + 1) ⟨h₁, _, 0, _, [], rfl, Nat.zero_le _, rfl, st1, rfl, fun j v h => by simp at h, hacc, hns₁, fun b o e => (hold₁ b o e).2.2.2⟩ (by intro _; rfl)
    rintro k s' ⟨h', tk, i, m', ys, rfl, hi, rfl, hst', hyl, hyf, hD', hC', ho'⟩
    have nI : ∀ {b : Addr}, b ≠ I → b ∉ [I] := fun hb hm => hb (List.mem_singleton.mp hm)
    by_cases hlt' : i < its.size
    · refine W.item i _ _ _ hlt' hst' fun v h₂ tk₂ hPv hst₂ hk₂ => ?_
      refine wpAny_assign_Name (wpAny_storeName_local (lookup_relabel_local hx) (hC'.at' fun o e => hk₂ _ o (nI (Ne.symm hID.2)) e) (fun h₃ hn₃ hs₃ => ?_) (by simp [compEnvC, relabel, hkind]))
      have ho₃ : ∀ b o, low.get? b = some o → h₃.get? b = some o := fun b o e => hs₃.extBut b o (hold₁ b o e).2.1 (hk₂ b o (nI (hold₁ b o e).1) (ho' b o e))
      have hst₃ : h₃.IsListIter I ax (i + 1) ∧ h₃.IsList ax its := ⟨hst₂.1.at fun o e => hs₃.extBut _ _ hID.2 e, hst₂.2.at fun o e => hs₃.extBut _ _ hxD.2 e⟩
      have hD₃ : h₃.get? D = some (lst ys) := hs₃.extBut _ _ hDC (hk₂ _ _ (nI (Ne.symm hID.1)) hD')
      refine wpAny_mono (hin C i _ _ _ hlt' hn₃ (by rw [if_pos rfl]; exact hPv.symm) ho₃) (fun y s₄ h₄ => ?_) fun _ _ e => e
      obtain ⟨hfy, h₄', tk₄, rfl, k₄⟩ := h₄
      replace k₄ : ∀ b o, h₃.get? b = some o → h₄'.get? b = some o := k₄
      replace hn₃ : h₃.Ns C _ := hn₃
      refine append_at (hsz := by
        show ys.toArray.size ≤ sizeLine
        rw [List.size_toArray, sizeLine_eq]; omega) (k₄ _ _ hD₃) fun h₅ hs₅ hd₅ => ?_
      refine ⟨its.size + 1 - (i + 1), by omega, h₅, _, i + 1, _, ys ++ [y], rfl, hlt', rfl, ⟨(hst₃.1.at fun o e => k₄ _ _ e).at fun o e => hs₅.extBut _ _ hID.1 e, (hst₃.2.at fun o e => k₄ _ _ e).at fun o e => hs₅.extBut _ _ hxD.1 e⟩,
        by rw [List.length_append, List.length_singleton, hyl], fun j v hj => ?_, hd₅.trans (congrArg some (lst_snoc ys y)), (hn₃.at' fun o e => k₄ _ o e).sameBut hs₅ (Ne.symm hDC), fun b o e => hs₅.extBut _ _ (hold₁ b o e).2.2.1 (k₄ _ _ (ho₃ b o e))⟩
      rcases Nat.lt_or_ge j ys.length with hjl | hjl
      · rw [List.getElem?_append_left hjl] at hj
        exact hyf j v hj
      · rw [List.getElem?_append_right hjl] at hj
        have : j - ys.length = 0 := by
          rcases Nat.eq_zero_or_pos (j - ys.length) with h | h
          · exact h
          · rw [List.getElem?_eq_none (by simp; omega)] at hj; cases hj
        rw [this] at hj
        simp only [List.getElem?_cons_zero, Option.some.injEq] at hj
        subst hj
        have : j = i := by omega
        rw [this]; exact hfy
    · obtain rfl : i = its.size := Nat.le_antisymm hi (Nat.not_lt.mp hlt')
      refine W.done _ _ _ hst' fun h₂ tk₂ hk₂ => ?_
      exact hRR D C h₂ tk₂ m' ys hyl hyf (hk₂ _ _ (nI (Ne.symm hID.1)) hD') (hC'.at' fun o e => hk₂ _ o (nI (Ne.symm hID.2)) e) (Ne.symm hDC) (fun b o e => ⟨(hold₁ b o e).2.1, (hold₁ b o e).2.2.1, hk₂ _ _ (nI (hold₁ b o e).1) (ho' b o e)⟩) hDn hCn
  exact codeAny_compStart_list (loop _ rfl) (W.self 0 _ _ _ st1 (loop _ rfl))
variable {h₀ : Heap} {L : Addr} {m : Str → Option Value}
theorem ListComp_map {elt iter : Expr} {x : Str} {px : Pos} {scope : Scope} {cl : List (Str × Addr)} {pos : Pos} {Q : Value → Shared → Prop} (_F₀ : Fr h₀ L s.heap m)
    (hclos : closureFor scope env = pure cl) (hcell : ∀ y ∈ scope.names, y.2 ≠ .cell) (hkind : scope.kind = .function)
    (hnames : ∀ y ∈ scope.names, y.2 = .local → scope.names.lookup y.1 = some .local) (hx : scope.names.lookup x = some .local)
    (h : wpAny (model prog w) A (eval iter env) (fun xv s₁ => Stop (∃ (ax : Addr) (its : Array Value) (n : Nat) (f : Nat → Value → Prop) (news : List (Addr × Obj)), xv = .ref ax ∧ A.handled = none ∧ Fr h₀ L s₁.heap m ∧ News h₀ L s₁.heap news ∧ (ax, W.listOf its n) ∈ news ∧ its.size ≤ 100 ∧
      (∀ C i s₃ m₂ E', i < its.size → s₃.heap.Ns (compEnvC scope cl C env).locals m₂ → m₂ x = its[i]? → (∀ b o, s₁.heap.get? b = some o → s₃.heap.get? b = some o) →
        wpAny (model prog w) A (eval elt (compEnvC scope cl C env)) (fun y s₄ => f i y ∧ Keeps s₃ s₄) E' s₃) ∧
      (∀ D ys h tk, ys.length = its.size → (∀ (i : Nat) v, ys[i]? = some v → f i v) → Fr h₀ L h m → News h₀ L h ((D, lst ys) :: news) → (∀ p ∈ news, p.1 ≠ D) → Q (.ref D) { s₁ with heap := h, toks := tk }))) E s)
    (hs : ∀ x, foldedSetIterable iter env x = pure x) :
    wpAny (model prog w) A (eval (.ListComp elt [⟨.Name x px, iter, [], 0⟩] scope pos) env) Q E s := by
  rw [eval_ListComp]
  refine wpAny_comprehension_free (use := none) rfl hs hclos hkind hnames (wpAny_mono h (fun xv s₁ h₁ => ?_) fun _ _ e => e)
  obtain ⟨ax, its, n, f, news, rfl, hh, F, N, hm, hn, hin, hQ⟩ := Stop.out h₁
  have hl : s₁.heap.IsList ax its := ⟨_, (N _ hm).1, rfl, _, rfl⟩
  have hlt : ax < s₁.heap.objs.size := by obtain ⟨_, e, _⟩ := hl; exact Heap.lt_size e
  refine wpAny_pyIter_list hl ?_
  have up : ∀ b o, s₁.heap.get? b = some o → (s₁.heap.push { cls := .type "list_iterator", data := .fields #[.ref ax, .int 0 0] }).get? b = some o := fun b o e => Heap.get?_push_of_some _ e
  refine map_block (low := s₁.heap) hh ⟨_, Heap.get?_push_size _ rfl, rfl, rfl⟩ (hl.push _) (Nat.ne_of_lt hlt) hn (fun b o e => ⟨Nat.ne_of_lt (Heap.lt_size e), up b o e⟩) hcell hkind hx hin ?_
  intro D C h tk m' ys hyl hyf hD hC hCD hk hDn hCn
  have none₀ : ∀ b, (s₁.heap.push { cls := .type "list_iterator", data := .fields #[.ref ax, .int 0 0] }).get? b = none → h₀.get? b = none := fun b hb => by
    cases e : h₀.get? b with
    | none => rfl
    | some o => rw [up b o (F.keep b o e)] at hb; cases hb
  obtain ⟨oL, esL, epL, hLo, hLr⟩ := F.ns
  have hLC : C ≠ L := Ne.symm (hk _ _ hLo).1
  have hLD : D ≠ L := Ne.symm (hk _ _ hLo).2.1
  refine ⟨m', hC, fun h'' hs'' => ?_⟩
  have keep : ∀ b o, s₁.heap.get? b = some o → h''.get? b = some o := fun b o e => hs''.extBut b o (hk b o e).1 (hk b o e).2.2
  refine hQ D ys h'' tk hyl hyf ⟨⟨oL, esL, epL, keep _ _ hLo, hLr⟩, fun b o e => keep b o (F.keep b o e), F.above⟩ (fun p hp => ?_) (fun p hp => (hk _ _ (N p hp).1).2.1)
  rcases List.mem_cons.mp hp with rfl | hp
  · exact ⟨hs''.extBut _ _ (Ne.symm hCD) hD, hLD, none₀ _ hDn⟩
  · exact ⟨keep _ _ (N p hp).1, (N p hp).2⟩
theorem ints_of {ys : List Value} {F : Nat → Int} : ∀ (n : Nat), ys.length = n → (∀ (i : Nat) v, ys[i]? = some v → ∃ t, v = Value.int (F i) t) → IntsAre ys ((List.range n).map F) := by
  induction ys generalizing F with
  | nil => intro n hn _; subst hn; exact .nil
  | cons v r ih =>
    intro n hn hf
    subst hn
    obtain ⟨t, rfl⟩ := hf 0 v rfl
    have h2 := ih (F := fun i => F (i + 1)) r.length rfl fun i u hu => hf (i + 1) u (by simpa using hu)
    rw [List.length_cons, List.range_succ_eq_map, List.map_cons, List.map_map]
    exact .cons _ _ h2
end
end Mine
end
section
-- DueZ
open PySem PySem.W PyProof.Rows PySem.Calls PySem.Spec PyProof.V
set_option Elab.async false
set_option maxRecDepth 100000
set_option maxHeartbeats 4000000
namespace Mine
def lf (hs : List Int) (j : Nat) : Int := mxl (hs.take (j + 1))
def rf (hs : List Int) (j : Nat) : Int := mxl (hs.drop j)
def wf (hs : List Int) (j : Nat) : Int := ((wets hs j).length : Int)
theorem mxl_of {M : Int} {l : List Int} (h : IsMx M l) (h0 : ∀ x ∈ l, 0 ≤ x) : M = mxl l := by
  have key : ∀ (l : List Int) (m : Int), m ≤ l.foldl max m ∧ (∀ x ∈ l, x ≤ l.foldl max m) ∧ (l.foldl max m = m ∨ l.foldl max m ∈ l) := by
    intro l
    induction l with
    | nil => intro m; exact ⟨Int.le_refl _, fun _ h => (nomatch h), .inl rfl⟩
    | cons a r ih =>
      intro m
      obtain ⟨h1, h2, h3⟩ := ih (max m a)
      refine ⟨Int.le_trans (Int.le_max_left m a) h1, fun x hx => ?_, ?_⟩
      · rcases List.mem_cons.mp hx with rfl | hx
        · exact Int.le_trans (Int.le_max_right m x) h1
        · exact h2 x hx
      · rcases h3 with h3 | h3
        · rw [List.foldl_cons, h3]
          rcases Int.le_total m a with hma | hma
          · right; rw [Int.max_eq_right hma]; exact List.mem_cons_self
          · left; exact Int.max_eq_left hma
        · right; exact List.mem_cons_of_mem _ h3
  obtain ⟨_, h2, h3⟩ := key l 0
  refine Int.le_antisymm (h2 _ h.1) ?_
  rcases h3 with h3 | h3
  · show l.foldl max 0 ≤ M
    rw [h3]; exact h0 _ h.1
  · exact h.2 _ h3
theorem due_at {hs : List Int} {j : Nat} {o : Obj} (h : DueAt hs j o) (h0 : ∀ x ∈ hs, 0 ≤ x) : T4 o (lf hs j) (hs.getD j 0) (rf hs j) (wf hs j) := by
  obtain ⟨a, b, ha, hb, ht⟩ := h
  have ea := mxl_of ha fun x hx => h0 x (List.mem_of_mem_take hx)
  have eb := mxl_of hb fun x hx => h0 x (List.mem_of_mem_drop hx)
  subst ea eb
  exact ht
abbrev tup4 (hs : List Int) (ta tb tc td : Nat → Tok) (i : Nat) : Obj := { cls := Value.type "tuple", data := Data.seq [Value.int (lf hs i) (ta i), Value.int (hs.getD i 0) (tb i), Value.int (rf hs i) (tc i), Value.int (wf hs i) (td i)].toArray }
theorem due7 {hs : List Int} {rs : List Value} {tups : List (Addr × Obj)} (d : Due hs 7 rs tups) (h0 : ∀ x ∈ hs, 0 ≤ x) :
    ∃ (a : Nat → Addr) (ta tb tc td : Nat → Tok), rs = [Value.ref (a 0), Value.ref (a 1), Value.ref (a 2), Value.ref (a 3), Value.ref (a 4), Value.ref (a 5), Value.ref (a 6)] ∧ ∀ i, i < 7 → (a i, tup4 hs ta tb tc td i) ∈ tups := by
  obtain ⟨hl, hd⟩ := d
  have hx : ∀ i, ∃ (q : Addr × Tok × Tok × Tok × Tok), i < 7 → rs[i]? = some (Value.ref q.1) ∧ (q.1, ({ cls := Value.type "tuple", data := Data.seq [Value.int (lf hs i) q.2.1, Value.int (hs.getD i 0) q.2.2.1, Value.int (rf hs i) q.2.2.2.1, Value.int (wf hs i) q.2.2.2.2].toArray } : Obj)) ∈ tups := fun i => by
    by_cases hi : i < 7
    · obtain ⟨a, o, r, m, d⟩ := hd i hi
      obtain ⟨t1, t2, t3, t4, rfl⟩ := due_at d h0
      exact ⟨(a, t1, t2, t3, t4), fun _ => ⟨r, m⟩⟩
    · exact ⟨(0, 0, 0, 0, 0), fun h => absurd h hi⟩
  obtain ⟨f, hf⟩ : ∃ f : Nat → Addr × Tok × Tok × Tok × Tok, ∀ i, i < 7 → rs[i]? = some (Value.ref (f i).1) ∧ ((f i).1, ({ cls := Value.type "tuple", data := Data.seq [Value.int (lf hs i) (f i).2.1, Value.int (hs.getD i 0) (f i).2.2.1, Value.int (rf hs i) (f i).2.2.2.1, Value.int (wf hs i) (f i).2.2.2.2].toArray } : Obj)) ∈ tups :=
    ⟨fun i => (hx i).choose, fun i => (hx i).choose_spec⟩
  refine ⟨fun i => (f i).1, fun i => (f i).2.1, fun i => (f i).2.2.1, fun i => (f i).2.2.2.1, fun i => (f i).2.2.2.2, ?_, fun i hi => (hf i hi).2⟩
  have hr : ∀ i, i < 7 → rs[i]? = some (Value.ref (f i).1) := fun i hi => (hf i hi).1
  clear hx hd hf
  obtain ⟨v0, v1, v2, v3, v4, v5, v6, rfl⟩ := seven_any hl
  have r0 := hr 0 (by decide)
  have r1 := hr 1 (by decide)
  have r2 := hr 2 (by decide)
  have r3 := hr 3 (by decide)
  have r4 := hr 4 (by decide)
  have r5 := hr 5 (by decide)
  have r6 := hr 6 (by decide)
  simp only [List.getElem?_cons_zero, List.getElem?_cons_succ, Option.some.injEq] at r0 r1 r2 r3 r4 r5 r6
  rw [r0, r1, r2, r3, r4, r5, r6]
theorem slice_tuple_raw {prog : Program} {w : World} {A : Around} {E : Value → Shared → Prop} {s : Shared} {value slice : Expr} {t : Addr} {items : Array Value} {ys : List Value} {a : Nat} {u : Tok} {Q : Value → Shared → Prop}
    (ht : IsTup s.heap t items) (ha : a < items.size) (hy : ((List.range a).filterMap fun (k : Nat) => items[((0 : Int) + (k : Int) * 1).toNat]?) = ys) (hz : ys.length ≤ 1000)
    (h : ∀ T h', h'.IsTuple T ys.toArray → (∀ b o, s.heap.get? b = some o → h'.get? b = some o) → Q (.ref T) { s with heap := h' })
    (hs : subscripted slice false (.ref t) (.ref s.heap.objs.size) = operate [.ref s.heap.objs.size, .ref t] (getItem (.ref t) (.ref s.heap.objs.size)) := by with_unfolding_all rfl)
    (hg : ∀ r, letTemporaryGo value (.ref t) r = pure () := by intro _; with_unfolding_all rfl) :
    wpAny (model prog w) A (subscriptTail value slice (.ref t) (.ref s.heap.objs.size)) Q E { s with heap := s.heap.push { cls := .type "slice", data := .fields #[.none, .int a u, .none] } } := by
  have ht' : IsTup (s.heap.push { cls := .type "slice", data := .fields #[.none, .int a u, .none] }) t items := ht.keeps fun _ _ e => Heap.get?_push_of_some _ e
  refine subscriptTail_ops (s := { s with heap := s.heap.push { cls := .type "slice", data := .fields #[.none, .int a u, .none] } }) ht'.typeIs PyProof.Rows.slot_tuple_getitem.lookup
    (getItem_tuple_upto ht' (Heap.IsSliceOf.new ..) ha hy hz ?_) hs hg
  exact h _ _ ⟨_, Heap.get?_push_size _ rfl, rfl, _, rfl⟩ fun b o e => Heap.get?_push_of_some _ (Heap.get?_push_of_some _ e)
theorem ref7 (a : Nat → Addr) {i : Nat} (hi : i < 7) : (#[Value.ref (a 0), Value.ref (a 1), Value.ref (a 2), Value.ref (a 3), Value.ref (a 4), Value.ref (a 5), Value.ref (a 6)] : Array Value)[i]? = some (Value.ref (a i)) := by
  match i, hi with
  | 0, _ => rfl
  | 1, _ => rfl
  | 2, _ => rfl
  | 3, _ => rfl
  | 4, _ => rfl
  | 5, _ => rfl
  | 6, _ => rfl
theorem bInts_inj {a b : Array UInt8} (h : KBw.bInts a = KBw.bInts b) : a = b := by
  have key : ∀ (x y : List UInt8), x.map (fun c => (c.toNat : Int)) = y.map (fun c => (c.toNat : Int)) → x = y := by
    intro x
    induction x with
    | nil => intro y hy; cases y with
      | nil => rfl
      | cons _ _ => simp at hy
    | cons p x ih => intro y hy; cases y with
      | nil => simp at hy
      | cons q y =>
        simp only [List.map_cons, List.cons.injEq] at hy
        have h1 : p = q := UInt8.toNat_inj.mp (Int.ofNat.inj hy.1)
        rw [h1, ih y hy.2]
  have := key a.toList b.toList h
  exact Array.toList_inj.mp this
theorem flat_ints (hs : List Int) (ta tb tc : Nat → Tok) : ∀ n, IntsAre (flatN (fun i => [Value.int (lf hs i) (ta i), Value.int (hs.getD i 0) (tb i), Value.int (rf hs i) (tc i)]) n) ((List.range n).flatMap fun i => [lf hs i, hs.getD i 0, rf hs i])
  | 0 => .nil
  | n + 1 => by
    rw [flatN_succ, List.range_succ, List.flatMap_append, List.flatMap_singleton]
    exact (flat_ints hs ta tb tc n).append (.cons _ _ (.cons _ _ (.cons _ _ .nil)))
theorem mxl_eq {l l' : List Int} (h : ∀ x, x ∈ l ↔ x ∈ l') (h0 : ∀ x ∈ l, 0 ≤ x) (hn : l ≠ []) : mxl l = mxl l' := by
  have key : ∀ (l : List Int), l ≠ [] → (∀ x ∈ l, 0 ≤ x) → IsMx (mxl l) l := by
    intro l hl h0
    have aux : ∀ (l : List Int) (m : Int), (∀ x ∈ l, x ≤ l.foldl max m) ∧ (l.foldl max m = m ∨ l.foldl max m ∈ l) := by
      intro l
      induction l with
      | nil => intro m; exact ⟨fun _ h => (nomatch h), .inl rfl⟩
      | cons a r ih =>
        intro m
        obtain ⟨h2, h3⟩ := ih (max m a)
        refine ⟨fun x hx => ?_, ?_⟩
        · rcases List.mem_cons.mp hx with rfl | hx
          · exact Int.le_trans (Int.le_max_right m x) (foldl_max_le r _)
          · exact h2 x hx
        · rcases h3 with h3 | h3
          · rw [List.foldl_cons, h3]
            rcases Int.le_total m a with hma | hma
            · right; rw [Int.max_eq_right hma]; exact List.mem_cons_self
            · left; exact Int.max_eq_left hma
          · right; exact List.mem_cons_of_mem _ h3
    obtain ⟨h2, h3⟩ := aux l 0
    refine ⟨?_, h2⟩
    rcases h3 with h3 | h3
    · cases l with
      | nil => exact absurd rfl hl
      | cons a r =>
        have ha := h0 a List.mem_cons_self
        have hb := h2 a List.mem_cons_self
        rw [h3] at hb
        have : a = 0 := by omega
        show List.foldl max 0 (a :: r) ∈ a :: r
        rw [h3, this]; exact List.mem_cons_self
    · exact h3
  have h1 := key l hn h0
  exact mxl_of ⟨(h _).mp h1.1, fun a ha => h1.2 a ((h a).mpr ha)⟩ fun x hx => h0 x ((h x).mpr hx)
theorem seven_ints {hs : List Int} (h : hs.length = 7) : ∃ a b c d e f g, hs = [a, b, c, d, e, f, g] := seven_any h
theorem tops_getD (ks : List Int) {k : Nat} (hk : k < 7) : (tops ks).getD k 0 = mxl (ks.take (k + 1)) := by
  unfold tops
  rw [List.getD_eq_getElem?_getD, List.getElem?_map, List.getElem?_range hk]
  rfl
theorem tops_rev {ks : List Int} (h7 : ks.length = 7) (h0 : ∀ x ∈ ks, 0 ≤ x) {k : Nat} (hk : k < 7) : (tops ks.reverse).reverse.getD k 0 = mxl (ks.drop k) := by
  have hl : (tops ks.reverse).length = 7 := tops_len _
  rw [List.getD_eq_getElem?_getD, List.getElem?_reverse (by omega), hl, ← List.getD_eq_getElem?_getD, tops_getD _ (by omega)]
  refine mxl_eq (fun x => ?_) (fun x hx => h0 x (List.mem_reverse.mp (List.mem_of_mem_take hx))) ?_
  · have e : 7 - 1 - k + 1 = ks.length - k := by omega
    rw [e, ← List.reverse_drop]
    exact List.mem_reverse
  · intro hn
    have := congrArg List.length hn
    rw [List.length_take, List.length_reverse, h7] at this
    simp at this
theorem flatMap_same {α β : Type} {f g : α → List β} : ∀ {l : List α}, (∀ x ∈ l, f x = g x) → l.flatMap f = l.flatMap g
  | [], _ => rfl
  | a :: r, h => by rw [List.flatMap_cons, List.flatMap_cons, h a List.mem_cons_self, flatMap_same fun x hx => h x (List.mem_cons_of_mem _ hx)]
theorem pix_eq {ks : List Int} (h7 : ks.length = 7) (h0 : ∀ x ∈ ks, 0 ≤ x) : pix ks = (List.range 7).flatMap fun i => [lf ks i, ks.getD i 0, rf ks i] := by
  unfold pix
  have : ∀ k ∈ List.range 7, [(tops ks).getD k 0, ks.getD k 0, (tops ks.reverse).reverse.getD k 0] = [lf ks k, ks.getD k 0, rf ks k] := fun k hk => by
    have hk7 := List.mem_range.mp hk
    rw [tops_getD _ hk7, tops_rev h7 h0 hk7]
    rfl
  exact flatMap_same this
theorem cut3 {ks : List Int} (h7 : ks.length = 7) (h0 : ∀ x ∈ ks, 0 ≤ x) {i : Nat} (hi : i < 7) :
    ((pix ks).drop (clipAt (pix ks).length (3 * (0 + (i : Int))))).take (clipAt (pix ks).length (3 * (0 + (i : Int)) + 3) - clipAt (pix ks).length (3 * (0 + (i : Int)))) = [lf ks i, ks.getD i 0, rf ks i] := by
  rw [pix_len, pix_eq h7 h0]
  match i, hi with
  | 0, _ => rfl
  | 1, _ => rfl
  | 2, _ => rfl
  | 3, _ => rfl
  | 4, _ => rfl
  | 5, _ => rfl
  | 6, _ => rfl
theorem pix_rev {ks : List Int} (h7 : ks.length = 7) (h0 : ∀ x ∈ ks, 0 ≤ x) : (pix ks).reverse = pix ks.reverse := by
  have h7r : ks.reverse.length = 7 := by rw [List.length_reverse, h7]
  unfold pix
  rw [List.reverse_reverse]
  generalize hA : tops ks = A
  generalize hB : tops ks.reverse = B
  obtain ⟨a0, a1, a2, a3, a4, a5, a6, rfl⟩ := seven_ints (hs := A) (by rw [← hA]; exact tops_len _)
  obtain ⟨b0, b1, b2, b3, b4, b5, b6, rfl⟩ := seven_ints (hs := B) (by rw [← hB]; exact tops_len _)
  obtain ⟨k0, k1, k2, k3, k4, k5, k6, rfl⟩ := seven_ints h7
  rfl
end Mine
end
section
-- MathZ
open PySem PySem.W PyProof.Rows PySem.Calls PySem.Spec PyProof.V
set_option Elab.async false
set_option maxRecDepth 100000
set_option maxHeartbeats 4000000
namespace Mine
theorem clamp_up {i m h : Int} (h1 : h < 1 + i) (h2 : 1 + i ≤ m) : max 0 (min i m - h) + 1 = max 0 (min (i + 1) m - h) := by
  have a : i + 1 ≤ m := Int.add_comm 1 i ▸ h2
  have b : i ≤ m := Int.le_of_lt a
  have c : h ≤ i := Int.le_of_lt_add_one (Int.add_comm 1 i ▸ h1)
  have d : 0 ≤ i - h := Int.sub_nonneg_of_le c
  rw [Int.min_eq_left b, Int.min_eq_left a, Int.max_eq_right d, Int.sub_eq_add_neg, Int.sub_eq_add_neg, Int.add_right_comm, Int.max_eq_right]
  exact Int.le_trans d (by rw [Int.sub_eq_add_neg, Int.add_right_comm]; exact Int.le_of_lt (Int.lt_succ _))
theorem clamp_stay {i m h : Int} (hn : ¬ (h < 1 + i ∧ 1 + i ≤ m)) : max 0 (min i m - h) + 0 = max 0 (min (i + 1) m - h) := by
  rw [Int.add_zero]
  rcases Int.lt_or_le i m with h2 | h2
  · have h2' : i + 1 ≤ m := h2
    have h3 : i + 1 ≤ h := Int.not_lt.mp fun h4 => hn ⟨Int.add_comm 1 i ▸ h4, Int.add_comm i 1 ▸ h2'⟩
    rw [Int.min_eq_left (Int.le_of_lt h2), Int.min_eq_left h2', Int.max_eq_left (Int.sub_nonpos_of_le (Int.le_of_lt h3)), Int.max_eq_left (Int.sub_nonpos_of_le h3)]
  · rw [Int.min_eq_right h2, Int.min_eq_right (Int.le_trans h2 (Int.le_of_lt (Int.lt_succ i)))]
theorem min_max_sub (x y z : Int) : min (max x z) (max z y) - z = max 0 (min x y - z) := by
  rw [Int.max_comm z y, ← Int.max_min_distrib_right]
  rcases Int.le_total (min x y) z with h | h
  · rw [Int.max_eq_right h, Int.sub_self, Int.max_eq_left (Int.sub_nonpos_of_le h)]
  · rw [Int.max_eq_left h, Int.max_eq_right (Int.sub_nonneg_of_le h)]
theorem wet8 {x y z : Int} (h8 : x < 8) : max 0 (min ((8 : Nat) : Int) (min x y) - z) = min (max x z) (max z y) - z := by
  rw [min_max_sub, Int.min_eq_right]
  exact Int.le_trans (Int.min_le_left _ _) (Int.le_of_lt h8)
theorem high3 (x y z : Int) : max (max x z) (max z y) = max x (max z y) := by
  rw [Int.max_assoc, ← Int.max_assoc z z y, Int.max_self]
theorem wet_seven {x y z : Int} (h8 : x < 8) (hz : z < 8) : min ((7 - z).toNat : Int) (max 0 (min x y - z)) = min (max x z) (max z y) - z := by
  have h7 : z ≤ 7 := Int.le_of_lt_add_one hz
  rw [min_max_sub, Int.toNat_of_nonneg (Int.sub_nonneg_of_le h7), Int.min_eq_right]
  refine Int.max_le.mpr ⟨Int.sub_nonneg_of_le h7, Int.sub_le_sub_right (Int.le_trans (Int.min_le_left _ _) (Int.le_of_lt_add_one h8)) _⟩
theorem cnt_up {x M n : Int} (h : x + 1 + n ≤ M) (hn : 0 ≤ n) : min n (max 0 (M - x)) + 1 = min (n + 1) (max 0 (M - x)) := by
  have h1 : n + 1 ≤ M - x := by lia
  have h2 := Int.le_of_lt (Int.lt_of_lt_of_le (Int.lt_succ n) h1)
  rw [Int.max_eq_right (Int.le_trans hn h2), Int.min_eq_left h1, Int.min_eq_left h2]
theorem cnt_stay {x M n : Int} (h : ¬ x + 1 + n ≤ M) (hn : 0 ≤ n) : min n (max 0 (M - x)) = min (n + 1) (max 0 (M - x)) := by
  have h1 : M - x ≤ n := by lia
  have h2 := Int.max_le.mpr ⟨hn, h1⟩
  rw [Int.min_eq_right h2, Int.min_eq_right (Int.le_trans h2 (Int.le_of_lt (Int.lt_succ n)))]
theorem foldl_max_ge : ∀ (l : List Int) (m : Int), (∀ x ∈ l, x ≤ l.foldl max m) ∧ (l.foldl max m = m ∨ l.foldl max m ∈ l)
  | [], m => ⟨fun _ h => (nomatch h), .inl rfl⟩
  | a :: r, m => by
    obtain ⟨h2, h3⟩ := foldl_max_ge r (max m a)
    refine ⟨fun x hx => ?_, ?_⟩
    · rcases List.mem_cons.mp hx with rfl | hx
      · exact Int.le_trans (Int.le_max_right m x) (foldl_max_le r _)
      · exact h2 x hx
    · rcases h3 with h3 | h3
      · rw [List.foldl_cons, h3]
        rcases Int.le_total m a with hma | hma
        · right; rw [Int.max_eq_right hma]; exact List.mem_cons_self
        · left; exact Int.max_eq_left hma
      · right; exact List.mem_cons_of_mem _ h3
theorem le_mxl {l : List Int} {x : Int} (h : x ∈ l) : x ≤ mxl l := (foldl_max_ge l 0).1 x h
theorem mxl_cases (l : List Int) : mxl l = 0 ∨ mxl l ∈ l := (foldl_max_ge l 0).2
theorem getD_mem {ks : List Int} (h7 : ks.length = 7) {i : Nat} (hi : i < 7) : ks.getD i 0 ∈ ks := by
  rw [List.getD_eq_getElem?_getD, List.getElem?_eq_getElem (by omega), Option.getD_some]
  exact List.getElem_mem _
theorem getD_take {ks : List Int} (h7 : ks.length = 7) {i : Nat} (hi : i < 7) : ks.getD i 0 ∈ ks.take (i + 1) := by
  rw [List.getD_eq_getElem?_getD, List.getElem?_eq_getElem (by omega), Option.getD_some]
  exact List.mem_of_getElem? (i := i) (by rw [List.getElem?_take_of_lt (Nat.lt_succ_self i), List.getElem?_eq_getElem])
theorem getD_drop {ks : List Int} (h7 : ks.length = 7) {i : Nat} (hi : i < 7) : ks.getD i 0 ∈ ks.drop i := by
  rw [List.getD_eq_getElem?_getD, List.getElem?_eq_getElem (by omega), Option.getD_some]
  exact List.mem_of_getElem? (i := 0) (by rw [List.getElem?_drop, List.getElem?_eq_getElem (show i + 0 < ks.length by omega)]; simp)
theorem lf_ge {ks : List Int} (h7 : ks.length = 7) {i : Nat} (hi : i < 7) : ks.getD i 0 ≤ lf ks i := le_mxl (getD_take h7 hi)
theorem rf_ge {ks : List Int} (h7 : ks.length = 7) {i : Nat} (hi : i < 7) : ks.getD i 0 ≤ rf ks i := le_mxl (getD_drop h7 hi)
theorem lf_lt {ks : List Int} (hb : ∀ x ∈ ks, 0 ≤ x ∧ x < 8) (i : Nat) : lf ks i < 8 := mxl_lt (by decide) fun x hx => (hb x (List.mem_of_mem_take hx)).2
theorem rf_lt {ks : List Int} (hb : ∀ x ∈ ks, 0 ≤ x ∧ x < 8) (i : Nat) : rf ks i < 8 := mxl_lt (by decide) fun x hx => (hb x (List.mem_of_mem_drop hx)).2
theorem mxl_append (a b : List Int) : mxl (a ++ b) = max (mxl a) (mxl b) := by
  have h1 : mxl a ≤ mxl (a ++ b) := by
    rcases mxl_cases a with h | h
    · rw [h]; exact mxl_nonneg _
    · exact le_mxl (List.mem_append_left _ h)
  have h2 : mxl b ≤ mxl (a ++ b) := by
    rcases mxl_cases b with h | h
    · rw [h]; exact mxl_nonneg _
    · exact le_mxl (List.mem_append_right _ h)
  have h3 : mxl (a ++ b) ≤ max (mxl a) (mxl b) := by
    rcases mxl_cases (a ++ b) with h | h
    · rw [h]; have := mxl_nonneg a; omega
    · rcases List.mem_append.mp h with h | h
      · have := le_mxl h; omega
      · have := le_mxl h; omega
  omega
theorem mxl_one {x : Int} (h : 0 ≤ x) : mxl [x] = x := by
  show max 0 x = x
  omega
theorem any_mxl {L : Int} (hL : 1 ≤ L) (l : List Int) : (l.any fun y => decide (L ≤ y)) = decide (L ≤ mxl l) := by
  rw [Bool.eq_iff_iff, List.any_eq_true, decide_eq_true_eq]
  constructor
  · rintro ⟨y, hy, h⟩
    have := le_mxl hy
    have := of_decide_eq_true h
    omega
  · intro h
    rcases mxl_cases l with h0 | h0
    · omega
    · exact ⟨_, h0, decide_eq_true h⟩
theorem count_le (x M : Int) : ∀ n : Nat, ((((List.range n).map fun (q : Nat) => x + 1 + (q : Int)).filter (fun L => decide (L ≤ M))).length : Int) = min (n : Int) (max 0 (M - x))
  | 0 => by simp; omega
  | n + 1 => by
    have ih := count_le x M n
    rw [List.range_succ, List.map_append, List.filter_append, List.length_append, List.map_singleton]
    by_cases h : x + 1 + (n : Int) ≤ M
    · rw [List.filter_cons_of_pos (by simpa using h), List.filter_nil, List.length_singleton, Int.natCast_add, Int.natCast_add, ih]
      exact cnt_up h (Int.natCast_nonneg n)
    · rw [List.filter_cons_of_neg (by simpa using h), List.filter_nil, List.length_nil, Nat.add_zero, Int.natCast_add, ih]
      exact cnt_stay h (Int.natCast_nonneg n)
theorem take_split {ks : List Int} (h7 : ks.length = 7) {i : Nat} (hi : i < 7) : ks.take (i + 1) = ks.take i ++ [ks.getD i 0] := by
  rw [List.take_add_one, List.getD_eq_getElem?_getD, List.getElem?_eq_getElem (by omega)]
  rfl
theorem drop_split {ks : List Int} (h7 : ks.length = 7) {i : Nat} (hi : i < 7) : ks.drop i = [ks.getD i 0] ++ ks.drop (i + 1) := by
  rw [List.drop_eq_getElem_cons (by omega), List.getD_eq_getElem?_getD, List.getElem?_eq_getElem (by omega)]
  rfl
theorem lf_split {ks : List Int} (h7 : ks.length = 7) (h0 : ∀ x ∈ ks, 0 ≤ x) {i : Nat} (hi : i < 7) : lf ks i = max (mxl (ks.take i)) (ks.getD i 0) := by
  unfold lf
  rw [take_split h7 hi, mxl_append, mxl_one (h0 _ (getD_mem h7 hi))]
theorem rf_split {ks : List Int} (h7 : ks.length = 7) (h0 : ∀ x ∈ ks, 0 ≤ x) {i : Nat} (hi : i < 7) : rf ks i = max (ks.getD i 0) (mxl (ks.drop (i + 1))) := by
  unfold rf
  rw [drop_split h7 hi, mxl_append, mxl_one (h0 _ (getD_mem h7 hi))]
theorem high_eq {ks : List Int} (i : Nat) (h7 : ks.length = 7) (h0 : ∀ x ∈ ks, 0 ≤ x) (hi : i < 7) : max (lf ks i) (rf ks i) = mxl ks := by
  rw [lf_split h7 h0 hi, rf_split h7 h0 hi]
  have : ks = ks.take i ++ ([ks.getD i 0] ++ ks.drop (i + 1)) := by rw [← drop_split h7 hi, List.take_append_drop]
  conv => rhs; rw [this, mxl_append, mxl_append, mxl_one (h0 _ (getD_mem h7 hi))]
  exact high3 _ _ _
theorem wf_eq {ks : List Int} (h7 : ks.length = 7) (hb : ∀ x ∈ ks, 0 ≤ x ∧ x < 8) {i : Nat} (hi : i < 7) : wf ks i = min (lf ks i) (rf ks i) - ks.getD i 0 := by
  have h0 : ∀ x ∈ ks, 0 ≤ x := fun x hx => (hb x hx).1
  have hk := hb _ (getD_mem h7 hi)
  rw [lf_split h7 h0 hi, rf_split h7 h0 hi]
  have e1 : mxl (ks.take i) < 8 := mxl_lt (by decide) fun x hx => (hb x (List.mem_of_mem_take hx)).2
  have e2 : mxl (ks.drop (i + 1)) < 8 := mxl_lt (by decide) fun x hx => (hb x (List.mem_of_mem_drop hx)).2
  unfold wf wets
  have : ∀ L ∈ ((List.range (7 - ks.getD i 0).toNat).map fun (q : Nat) => ks.getD i 0 + 1 + (q : Int)), wetB ks i L = decide (L ≤ min (mxl (ks.take i)) (mxl (ks.drop (i + 1)))) := fun L hL => by
    obtain ⟨q, _, rfl⟩ := List.mem_map.mp hL
    unfold wetB
    rw [any_mxl (by omega), any_mxl (by omega), ← Bool.decide_and]
    exact decide_eq_decide.mpr (by omega)
  rw [List.filter_congr this, count_le]
  exact wet_seven e1 hk.2
end Mine
end
section
-- LevelsZ
open PySem PySem.W PyProof.Rows PySem.Calls PySem.Spec PyProof.V
set_option Elab.async false
set_option maxRecDepth 100000
set_option maxHeartbeats 8000000
namespace Mine
theorem anew_LevelsZ : True ∧ True := by
  k_with_none
  first | (walk1; done) | exact ⟨trivial, trivial⟩
theorem fill_LevelsZ : (PySem.Challenge.rw_zn0017_01, hd.heap_39) = (PySem.Challenge.rw_zn0017_01, hd.heap_39) := by
  k_fill
  rfl
local macro_rules | `(tactic| walk_at "exec For Name Call cons nil") => `(tactic| (k_here; (with_unfolding_all refine' For_any ?_); k_whole))
local macro_rules | `(tactic| walk_at "pyIter ref") => `(tactic| ((with_reducible show wpAny _ _ (pyIter (Value.ref _)) (fun it s₂ => LoopG _ _ _ _ _ _ _ _ it s₂) _ _); refine Stop.out ?_))
local macro_rules | `(tactic| walk_at "call ref") => `(tactic| k_extra "call")
local macro_rules | `(tactic| walk_at "exec Assign cons DictComp") => `(tactic| k_extra "dictcomp")
local macro_rules | `(tactic| walk_at "CompSrc") => `(tactic| k_extra "src")
local macro_rules | `(tactic| walk_at "exec If") => `(tactic| k_extra "if")
local macro_rules | `(tactic| k_all) => `(tactic| assumption)
local macro_rules | `(tactic| lcg_off) => `(tactic| ((simp only [LCg.Off3, and_true]); assumption))
theorem join_tx7 : ∀ a b c d e f g : Bool, Txt.join (Str.ofString "") ([a, b, c, d, e, f, g].map fun z => if z then Str.ofString "x" else Str.ofString " ") = tx [a, b, c, d, e, f, g] := by decide +kernel
theorem join_tx {hts : List Int} (h : hts.length = 7) (y : Int) : Txt.join (Str.ofString "") (hts.map fun a => if y ≤ a then Str.ofString "x" else Str.ofString " ") = tx (hts.map fun a => decide (y ≤ a)) := by
  have e : (hts.map fun a => if y ≤ a then Str.ofString "x" else Str.ofString " ") = (hts.map fun a => decide (y ≤ a)).map fun z => if z then Str.ofString "x" else Str.ofString " " := by
    rw [List.map_map]
    refine List.map_congr_left fun a _ => ?_
    show _ = if decide (y ≤ a) = true then _ else _
    by_cases h : y ≤ a <;> simp [h]
  rw [e]
  obtain ⟨a, b, c, d, e, f, g, hbs⟩ := seven (bs := hts.map fun a => decide (y ≤ a)) (by rw [List.length_map, h])
  rw [hbs]
  exact join_tx7 a b c d e f g
abbrev noX (bs : List Bool) : Bool := (Builtin.Str.occurrences (tx bs) (Str.ofString "x") 0 (tx bs).length 1).isEmpty
def ld (bs : List Bool) : Nat := bs.findIdx id
def tr (bs : List Bool) : Nat := bs.reverse.findIdx id
theorem blank_of7 : ∀ a b c d e f g : Bool, noX [a, b, c, d, e, f, g] = true → [a, b, c, d, e, f, g] = blank7 := by decide +kernel
theorem blank_of {bs : List Bool} (h : bs.length = 7) (hn : noX bs = true) : bs = blank7 := by
  obtain ⟨a, b, c, d, e, f, g, rfl⟩ := seven h
  exact blank_of7 a b c d e f g hn
theorem strip_facts7 : ∀ a b c d e f g : Bool, noX [a, b, c, d, e, f, g] = false → (∀ i, i < ld [a, b, c, d, e, f, g] → [a, b, c, d, e, f, g].getD i true = false) ∧ [a, b, c, d, e, f, g].getD (ld [a, b, c, d, e, f, g]) true = true ∧ ld [a, b, c, d, e, f, g] + tr [a, b, c, d, e, f, g] ≤ 6 ∧
    (∀ i, i < tr [a, b, c, d, e, f, g] → [a, b, c, d, e, f, g].getD (6 - i) true = false) ∧ [a, b, c, d, e, f, g].getD (6 - tr [a, b, c, d, e, f, g]) true = true := by decide +kernel
theorem strip_facts {bs : List Bool} (h : bs.length = 7) (hn : noX bs = false) : (∀ i, i < ld bs → bs.getD i true = false) ∧ bs.getD (ld bs) true = true ∧ ld bs + tr bs ≤ 6 ∧ (∀ i, i < tr bs → bs.getD (6 - i) true = false) ∧ bs.getD (6 - tr bs) true = true := by
  obtain ⟨a, b, c, d, e, f, g, rfl⟩ := seven h
  exact strip_facts7 a b c d e f g hn
abbrev keptS (bs : List Bool) : Str := Txt.slice (tx bs) (some (ld bs : Int)) (some (7 - (tr bs : Int)))
theorem kept_len7 : ∀ a b c d e f g : Bool, noX [a, b, c, d, e, f, g] = false → (keptS [a, b, c, d, e, f, g]).length = 7 - ld [a, b, c, d, e, f, g] - tr [a, b, c, d, e, f, g] := by decide +kernel
theorem kept_len {bs : List Bool} (h : bs.length = 7) (hn : noX bs = false) : (keptS bs).length = 7 - ld bs - tr bs := by
  obtain ⟨a, b, c, d, e, f, g, rfl⟩ := seven h
  exact kept_len7 a b c d e f g hn
theorem find_tx7 : ∀ a b c d e f g : Bool, noX [a, b, c, d, e, f, g] = false → Txt.find (tx [a, b, c, d, e, f, g]) (Str.ofString "x") = (ld [a, b, c, d, e, f, g] : Int) := by decide +kernel
theorem find_tx {bs : List Bool} (h : bs.length = 7) (hn : noX bs = false) : Txt.find (tx bs) (Str.ofString "x") = (ld bs : Int) := by
  obtain ⟨a, b, c, d, e, f, g, rfl⟩ := seven h
  exact find_tx7 a b c d e f g hn
theorem PC.useK {w : World} {A : Around} {E : Value → Shared → Prop} {s : Shared} {base : Heap} {mg mb : Str → Option Value} {mean : ExcName → Option Value} {prog : Program}
    {A₀ : Around} {h₀ : Heap} {L : Addr} {m : Str → Option Value} {env : Env} {outer : List Env} {f : Addr} {nd nu : Nat} {vs : List Value} {post : Value → List (Addr × Obj) → Prop} {Q : Value → Shared → Prop} (C : PC prog w f nd nu s.heap vs post)
    (hh : A.handled = none) (hA : A.frames = some (env :: outer)) (hf : env.frame = some L) (hk : env.scope.kind = .function) (B : Below A₀ base outer h₀) (F : Fr h₀ L s.heap m) (B0 : Bs w mean mg mb base)
    (hdp : A.depth + nd < recursionLimit) (hun : A.units + nu < cLine) (h : ∀ r tl h' tk', s.heap.StaysIn h' → post r tl → Q r { s with heap := h', toks := tk' }) :
    wpAny (model prog w) A (call (.ref f) vs) Q E s := by
  rw [around_eta hA hh]
  exact C mean mg mb _ _ _ _ A base s Q E rfl (B0.keeps fun b o e => F.keep b o (B.stays b o e)) ((fun x => ⟨hA, Below.stays x, Below.frames x⟩) (pushX (env := env) B F hf hk)) hdp hun fun r tl h' tk' k _ p => h r tl h' tk' k p
def kdpOf (f : Int → Str) (d : Int → Int) (ks : List Int) : List (Str × Int) := ks.foldl (fun c k => kdpPut c (f k) (d k)) []
theorem putAll_kdp (f : Int → Str) (d : Int → Int) (ks : List Int) : putAll PyData.str f (fun k => PyData.int (d k)) ks = kdpD (kdpOf f d ks) := by
  have key : ∀ (ks : List Int) (c : List (Str × Int)), ks.foldl (fun acc a => putD (PyData.str (f a)) (PyData.int (d a)) acc) (kdpD c) = kdpD (ks.foldl (fun c k => kdpPut c (f k) (d k)) c) := by
    intro ks
    induction ks with
    | nil => intro c; rfl
    | cons k ks ih =>
      intro c
      rw [List.foldl_cons, List.foldl_cons, kdpD_put]
      exact ih _
  exact key ks []
theorem kdpOf_len (f : Int → Str) (d : Int → Int) (ks : List Int) : (kdpOf f d ks).length ≤ ks.length := by
  have key : ∀ (ks : List Int) (c : List (Str × Int)), (ks.foldl (fun c k => kdpPut c (f k) (d k)) c).length ≤ c.length + ks.length := by
    intro ks
    induction ks with
    | nil => intro c; exact Nat.le_refl _
    | cons k ks ih =>
      intro c
      have h1 := ih (kdpPut c (f k) (d k))
      have h2 := kdpPut_len c (f k) (d k)
      simp only [List.foldl_cons, List.length_cons]
      omega
  have := key ks []
  rw [List.length_nil, Nat.zero_add] at this
  exact this
theorem addC_len (a b : List (Str × Int)) : (addC a b).length ≤ a.length + b.length := by
  unfold addC
  have h1 := putP_len a []
  have h2 := addP_len b (a.foldl putP [])
  simp only [List.length_nil] at h1
  omega
def lvBs (hts : List Int) (i : Nat) : List Bool := hts.map fun a => decide (1 + (i : Int) ≤ a)
def wetC (bs : List Bool) : List (Str × Int) := kdpOf (fun k => spot ((ld bs : Int) + k)) (fun _ => 1) ((rangeKs 0 (keptS bs).length).filter fun k => Txt.item (keptS bs) k == Str.ofString " ")
noncomputable def levC (hts : List Int) : Nat → List (Str × Int)
  | 0 => []
  | i + 1 => if noX (lvBs hts i) then levC hts i else addC (levC hts i) (wetC (lvBs hts i))
theorem wetC_len {bs : List Bool} (h : (keptS bs).length ≤ 7) : (wetC bs).length ≤ 7 := by
  refine Nat.le_trans (kdpOf_len _ _ _) (Nat.le_trans (List.length_filter_le _ _) ?_)
  rw [rangeKs_length]; exact h
theorem levC_len {hts : List Int} (h7 : hts.length = 7) : ∀ i, (levC hts i).length ≤ 7 * i
  | 0 => Nat.le_refl _
  | i + 1 => by
    have ih := levC_len h7 i
    unfold levC
    split
    · omega
    · rename_i hn
      have h1 := addC_len (levC hts i) (wetC (lvBs hts i))
      have h2 : (wetC (lvBs hts i)).length ≤ 7 := wetC_len (by
        rw [kept_len (by unfold lvBs; rw [List.length_map, h7]) (by simpa using hn)]; omega)
      omega
local macro_rules | `(tactic| walk_at "subscriptTail") => `(tactic| k_extra "item")
local macro_rules | `(tactic| walk_at "call builtin:len") => `(tactic| k_extra "len")
theorem levels_spec (prog : Program) (w : World) (g : Heap) (l : Addr) (vs : List Value) (hts : List Int) (hl : g.IsList l vs.toArray) (hi : IntsAre vs hts) (h7 : hts.length = 7) (hb : ∀ x ∈ hts, 0 ≤ x ∧ x < 8) :
    PCU prog w 139 12 900 g [.ref l] (fun r tl => ∃ D o, r = .ref D ∧ tl = [(D, o)] ∧ (D == sysModules) = false ∧ SD prog w o (levC hts 8)) := by
  intro mean mg mb dp un gd outer A₀ base s Q E hs' HB HB0 D B hdp hun hret
  have K0 : Below (AT none dp un gd outer) base outer g := ⟨rfl, Below.stays B, Below.frames B⟩
  clear B
  have XB := Bs.X HB0
  have TB := Bs.T HB0
  have VB := Bs.V HB0
  clear HB0
  walk_at "p_enterC"
  k_with "if" => (k_here; refine Stop.out ?_)
  k_steps
  all_goals (try k_data)
  rename Fr _ _ _ _ => F0
  rename News _ _ _ _ => N0
  rename IsRange _ _ _ _ _ _ _ _ => R0
  rename Obj.IsDictOf (intKind prog w) _ _ => hi0
  rename Obj.IsDictOf (PySem.strKind prog w) _ [] => hs0
  clear hi0
  rename FlatPairs PyData.int [] [] => ff0
  rename FlatPairs PyData.str [] [] => ff1
  clear ff0 ff1
  rename (_ == sysModules) = false => lo0
  refine Stop.out ?_
  k_with_none
  rename_i L hq1 tq1 co1 co2 co3 dc1 dc2 dc3 Dt0 hq2 o0 l10 hq3 Fq Nq hq4 tq2 ta tb tc keep0
  clear Fq Nq keep0
  refine iter_range_turn (C := fun g' => Below (AT none dp un gd outer) base outer g' ∧ KtsDicts (outer.filterMap (·.frame)) g') (fs := outer.filterMap (·.frame)) (n := 8) [Str.ofString "table", Str.ofString "text", Str.ofString "wet"]
    (fun i u news => ∃ (Dt : Addr) (ot c1 c2 c3 : Obj) (x1 x2 x3 : Option Value), u (Str.ofString "table") = some (.ref Dt) ∧ news = [(Dt, ot), (@HAdd.hAdd Nat Nat Nat instHAdd (@HAdd.hAdd Nat Nat Nat instHAdd (@HAdd.hAdd Nat Nat Nat instHAdd L 1) 1) 1, c1), (@HAdd.hAdd Nat Nat Nat instHAdd (@HAdd.hAdd Nat Nat Nat instHAdd L 1) 1, c2), (@HAdd.hAdd Nat Nat Nat instHAdd L 1, c3)] ∧ c1.data = .cell x1 ∧ c2.data = .cell x2 ∧ c3.data = .cell x3 ∧ (Dt == sysModules) = false ∧ SD prog w ot (levC hts i) ∧ @Ne Nat Dt (@HAdd.hAdd Nat Nat Nat instHAdd L 1) ∧ @Ne Nat Dt (@HAdd.hAdd Nat Nat Nat instHAdd (@HAdd.hAdd Nat Nat Nat instHAdd L 1) 1) ∧ @Ne Nat Dt (@HAdd.hAdd Nat Nat Nat instHAdd (@HAdd.hAdd Nat Nat Nat instHAdd (@HAdd.hAdd Nat Nat Nat instHAdd L 1) 1) 1))
    ⟨K0, D⟩ rfl R0 (by decide) (by decide) F0 N0 ⟨Dt0, o0, co1, co2, co3, _, _, _, rfl, rfl, dc1, dc2, dc3, lo0, ⟨[], hs0, .nil⟩, Nat.ne_of_gt l10.2.2, Nat.ne_of_gt l10.2.1, Nat.ne_of_gt l10.1⟩ ?_ ?_
  · clear F0 N0 R0 hs0 dc1 dc2 dc3 lo0
    rintro I i t u news₁ oI h tk g1 ⟨K1, D1⟩ Tn hi8 ⟨Dt, ot, c1, c2, c3, x1, x2, x3, hu, rfl, dc1, dc2, dc3, lo1, ⟨kvs, hd1, hf1⟩, dn1, dn2, dn3⟩ F2 N2 off
    have offD : @Ne Nat Dt I := off _ List.mem_cons_self
    have off3 : @Ne Nat (@HAdd.hAdd Nat Nat Nat instHAdd (@HAdd.hAdd Nat Nat Nat instHAdd (@HAdd.hAdd Nat Nat Nat instHAdd L 1) 1) 1) I := off _ (List.mem_cons_of_mem _ List.mem_cons_self)
    have off2 : @Ne Nat (@HAdd.hAdd Nat Nat Nat instHAdd (@HAdd.hAdd Nat Nat Nat instHAdd L 1) 1) I := off _ (List.mem_cons_of_mem _ (List.mem_cons_of_mem _ List.mem_cons_self))
    have off1 : @Ne Nat (@HAdd.hAdd Nat Nat Nat instHAdd L 1) I := off _ (List.mem_cons_of_mem _ (List.mem_cons_of_mem _ (List.mem_cons_of_mem _ List.mem_cons_self)))
    replace F2 : Fr g1 _ h _ := Mine.Fr.carry F2 (k := Str.ofString "table") (by rw [if_pos rfl]; exact hu)
    replace N2 : News g1 _ h _ := N2
    have hl1 : g1.IsList l vs.toArray := by
      obtain ⟨o, ho, hc, n, hd⟩ := id hl
      obtain ⟨sl, hs⟩ := Tn.up ho
      exact ⟨_, hs, hc, n, hd⟩
    have X1 := XB.keeps K1.stays
    have T1 := TB.keeps K1.stays
    have V1 := VB.keeps K1.stays
    k_with "if" => (k_here; refine Stop.out ?_)
    k_with "src" => (k_dflt (refine LCg.CompSrc.base (by rfl) (by k_asm) (by k_asm) hl1 (by rw [kmk_size_eq hi, sizeLine_eq]; omega) ?_; intro g'; (refine' kct_list (fun k => if 1 + (i : Int) ≤ k then Str.ofString "x" else Str.ofString " ") hi (fun k' t' I' oI' C' oC' D' m' ys' h' tk' E' hk' hC' hx' F' N' off' ne' => ?_) ?_); (all_goals (try (simp only [LCg.Off3, and_true] at off'))); (all_goals (try ((show KPfMark → _); intro hMark')))))
    k_steps
    all_goals (try k_data)
    k_with_none
    unfold Stop
    rename Fr _ _ _ _ => F5
    rename News _ _ _ _ => N5
    rw [join_tx h7] at F5
    generalize hbs : (hts.map fun a => decide (1 + (i : Int) ≤ a)) = bs at F5
    have hlb : lvBs hts i = bs := hbs
    have hb7 : bs.length = 7 := by rw [← hbs, List.length_map, h7]
    k_with "call" => (k_here; refine Stop.out ?_)
    k_steps
    all_goals (try k_data)
    k_with_none
    · unfold Stop
      rename List.isEmpty _ = true => hno
      obtain rfl := blank_of hb7 hno
      rename Fr _ _ _ _ => F6
      rename News _ _ _ _ => N6
      k_dflt (refine' PCU.use (bare_spec prog w _ _) rfl rfl rfl rfl K1 D1 F6 N6 ⟨XB, TB, VB⟩ ?k7 ?k8 ?_; (case k7 => ktr_room); (case k8 => ktr_units))
      intro r' tl' h7' tk7 g2 Tn2 F7 N7 _ K2 D2 hp'
      obtain ⟨hr', ht'⟩ := hp'
      subst hr' ht'
      k_steps
      all_goals (try k_data)
      rename Fr _ _ _ _ => F8
      rename News _ _ _ _ => N8
      simp only [List.nil_append] at N8
      refine TEnd.intro [(Dt, ot), (_, c1), (_, c2), (_, _)] ⟨K2, D2⟩ (Tn.trans Tn2) F8 N8 (by k_mem) (fun p hp => ?_) ?_ (fun y hy => by rw [if_neg (neS hy rfl), if_neg (neS hy rfl), if_neg (neT hy)]) ⟨Dt, ot, c1, c2, _, _, _, _, ?_, rfl, dc1, dc2, by assumption, lo1, ⟨kvs, hd1, by unfold levC; rw [hlb, if_pos (by assumption)]; exact hf1⟩, dn1, dn2, dn3⟩
      · exact List.mem_cons_of_mem _ (List.mem_cons_of_mem _ hp)
      · intro p hp
        simp only [List.mem_cons, List.not_mem_nil, or_false] at hp
        rcases hp with rfl | rfl | rfl | rfl
        · exact offD
        · exact off3
        · exact off2
        · exact off1
      · exact (if_neg (by decide)).trans (if_pos rfl)
    · unfold Stop
      rename List.isEmpty _ = false => hno
      obtain ⟨q1, q2, q3, q4, q5⟩ := strip_facts hb7 hno
      rename Fr _ _ _ _ => F6
      rename News _ _ _ _ => N6
      k_dflt (refine' PCX.useB (strip_spec prog w _ bs _ _ (ld bs) (tr bs) hb7 q1 q2 q3 q4 q5) rfl rfl rfl K1 F6 N6 X1 T1 VB ?k7 ?k8 ?_; (case k7 => ktr_room); (case k8 => ktr_units))
      intro r' tl' h7' tk7 F7 N7 _ hp'
      obtain ⟨t9, hr', ht'⟩ := hp'
      subst hr' ht'
      k_with "dictcomp" => (k_here; refine Stop.out ?_)
      k_steps
      all_goals (try k_data)
      k_with_none
      · exfalso
        rename List.isEmpty _ = true => hyes
        rw [hno] at hyes; cases hyes
      · rename Fr _ _ _ _ => F8
        rename News _ _ _ _ => N8
        refine Stop.out ?_
        k_dflt (refine' dictcomp_range F8 N8 (modules_low T1.nolimit) (kf := fun k => spot ((ld bs : Int) + k)) (pz := fun k => Txt.item (Txt.slice (tx bs) (some (ld bs : Int)) (some (7 - (tr bs : Int)))) k == Str.ofString " ") (d := fun _ => PyData.int 1) ?e1 ?e2 rfl ?e4 ?e5 rfl ?e7 ?e8 ?e9 ?e10 ?e11 ?e12; (case e1 => with_unfolding_all rfl); (case e2 => with_unfolding_all rfl); (case e4 => with_unfolding_all rfl); (case e5 => decide); (case e7 => decide); (case e8 => with_unfolding_all rfl); (case e9 => with_unfolding_all rfl); (case e10 => with_unfolding_all rfl); (case e12 => (intro _; with_unfolding_all rfl)))
        have hkl7 := kept_len hb7 hno
        k_with "len" => (refine PyProof.Rows.len_str (x := keptS bs) (by rw [hkl7]; omega) ?_)
        k_steps
        all_goals (try k_data)
        k_with_none
        rename IsRange _ _ _ _ _ _ _ _ => R9
        rename Fr _ _ _ _ => F9
        rename News _ _ _ _ => N9
        refine (?_ : Stop _)
        refine ⟨_, _, _, _, _, _, (keptS bs).length, rfl, R9, small_one (by omega) (by omega) (by omega) (by omega), by rw [rangeSize_nat]; omega, by rw [hkl7, sizeLine_eq]; omega, F9, N9, ?_, ?_, ?_, ?_⟩
        · intro C k t s₂ m₂ E' hk hp hn hm up
          have F10 : Fr g1 L s₂.heap _ := F9.keeps up
          have N10 : News g1 L s₂.heap _ := N9.grown up
          have hkr := mem_rangeKs hk
          rw [find_tx hb7 hno] at *
          k_steps
          k_dflt (refine' PC.useK (spot_spec prog w _ _ _ ?p1 ?p2) rfl rfl rfl rfl K1 F10 ⟨XB, TB, VB⟩ ?k7 ?k8 ?_; (case p1 => omega); (case p2 => omega); (case k7 => ktr_room); (case k8 => ktr_units))
          intro r' tl' h9 tk9 k9 hp'
          obtain ⟨t8, hr', ht'⟩ := hp'
          subst hr' ht'
          exact ⟨strKind_is _ _ _ _, h9, _, rfl, k9⟩
        · intro C k t s₂ m₂ E' hk hn hm up
          have F10 : Fr g1 L s₂.heap _ := F9.keeps up
          have N10 : News g1 L s₂.heap _ := N9.grown up
          have hkr := mem_rangeKs hk
          k_with "item" => (refine KXi.item (x := keptS bs) hkl7 (by omega) (by omega) (by omega) ?_; intro _)
          k_steps
          k_with_none
          all_goals first
            | exact ⟨_, _, rfl, fun _ _ e => e⟩
            | (exfalso
               have hkr' : 0 ≤ k ∧ k < 0 + ((Txt.slice (tx bs) (some (ld bs : Int)) (some (7 - (tr bs : Int)))).length : Int) := hkr
               rename _ ∨ _ => hor
               rcases hor with hor | hor
               · omega
               · exact absurd hor (by omega))
        · intro C k t s₂ m₂ E' hk hp hn hm up
          k_steps
          · exact .int _ _
          · exact ⟨_, _, rfl, fun _ _ e => e⟩
        · clear F9 N9
          intro D kvs' h8 tk8 F9 N9 hg9 off9 lo9 hd9 hf9 _
          rw [putAll_kdp] at hf9
          replace hf9 : FlatPairs PyData.str kvs' (kdpD (wetC bs)) := hf9
          k_steps
          all_goals (try k_data)
          k_with_none
          obtain ⟨oD, hoD, hdD⟩ := Heap.dictOf_iff.mp hd9
          have dA : Dct prog w h8 Dt (levC hts i) := ⟨lo1, ot, (N9 (Dt, ot) (by k_mem)).1, kvs, hd1, hf1⟩
          have dB : Dct prog w h8 D (wetC bs) := ⟨lo9, oD, hoD, kvs', hdD, hf9⟩
          have hw7 : (wetC bs).length ≤ 7 := wetC_len (by rw [hkl7]; omega)
          have hll := levC_len h7 i
          k_dflt (refine' PC.use (callers_spec prog w _ _ _ _ _ dA dB ?dl) rfl rfl rfl rfl K1 F9 N9 X1 T1 V1 ?k7 ?k8 ?_; (case dl => omega); (case k7 => ktr_room); (case k8 => ktr_units))
          intro r' tl' h10 tk10 F10 N10 o10 hp'
          obtain ⟨R, oR, hr', ht', lo', sd'⟩ := hp'
          subst hr' ht'
          simp only [List.cons_append, List.nil_append] at N10
          k_steps
          all_goals (try k_data)
          rename Fr _ _ _ _ => F11
          rename News _ _ _ _ => N11
          obtain ⟨o3, o2, o1, y3, y2, y1, N12, e3, e2, e1⟩ : ∃ o3 o2 o1 y3 y2 y1, News g1 L _ [(R, oR), (_, LCg.lst ys), (I, oI), (Dt, ot), ((@HAdd.hAdd Nat Nat Nat instHAdd (@HAdd.hAdd Nat Nat Nat instHAdd (@HAdd.hAdd Nat Nat Nat instHAdd L 1) 1) 1), o3), ((@HAdd.hAdd Nat Nat Nat instHAdd (@HAdd.hAdd Nat Nat Nat instHAdd L 1) 1), o2), ((@HAdd.hAdd Nat Nat Nat instHAdd L 1), o1)] ∧ o3.data = Data.cell y3 ∧ o2.data = Data.cell y2 ∧ o1.data = Data.cell y1 := ⟨_, _, _, _, _, _, N11, by assumption, by assumption, by assumption⟩
          refine TEnd.intro [(R, oR), ((@HAdd.hAdd Nat Nat Nat instHAdd (@HAdd.hAdd Nat Nat Nat instHAdd (@HAdd.hAdd Nat Nat Nat instHAdd L 1) 1) 1), o3), ((@HAdd.hAdd Nat Nat Nat instHAdd (@HAdd.hAdd Nat Nat Nat instHAdd L 1) 1), o2), ((@HAdd.hAdd Nat Nat Nat instHAdd L 1), o1)] ⟨K1, D1⟩ Tn F11 N12 (by k_mem) (fun p hp => ?_) ?_ (fun y hy => by rw [if_neg (neS hy rfl), if_neg (neS hy rfl), if_neg (neS hy rfl), if_neg (neS hy rfl), if_neg (neT hy)])
            ⟨R, oR, o3, o2, o1, y3, y2, y1, if_pos rfl, rfl, e3, e2, e1, lo', by unfold levC; rw [hlb, if_neg (fun hx => absurd (hno.symm.trans hx) Bool.false_ne_true)]; exact sd',
              o10 _ (.head _) (_, _) (.tail _ (.tail _ (.tail _ (.tail _ (.tail _ (.head _)))))), o10 _ (.head _) (_, _) (.tail _ (.tail _ (.tail _ (.tail _ (.head _))))), o10 _ (.head _) (_, _) (.tail _ (.tail _ (.tail _ (.head _))))⟩
          · rcases List.mem_cons.mp hp with rfl | hp
            · exact .head _
            · exact .tail _ (.tail _ (.tail _ (.tail _ hp)))
          · intro p hp
            rcases List.mem_cons.mp hp with rfl | hp
            · exact o10 _ (.head _) (_, _) (.tail _ (.head _))
            · simp only [List.mem_cons, List.not_mem_nil, or_false] at hp
              rcases hp with rfl | rfl | rfl
              · exact off3
              · exact off2
              · exact off1
  · clear F0 N0 R0 hs0 dc1 dc2 dc3 lo0
    rintro u news₁ h tk g1 ⟨K1, D1⟩ Tn ⟨Dt, ot, c1, c2, c3, x1, x2, x3, hu, rfl, dc1, dc2, dc3, lo1, sd1, dn1, dn2, dn3⟩ F2 N2
    replace F2 : Fr g1 _ h _ := Mine.Fr.carry F2 (k := Str.ofString "table") (by rw [if_pos rfl]; exact hu)
    replace N2 : News g1 _ h _ := N2
    have X1 := XB.keeps K1.stays
    have T1 := TB.keeps K1.stays
    k_steps
    exact hret _ [(Dt, ot)] _ _ g1 Tn F2.keep (left_sub N2 fun p hp => by rw [List.mem_singleton.mp hp]; exact .head _) ⟨Dt, ot, rfl, rfl, lo1, sd1⟩

end Mine
end
section
-- ShownZ
open PySem PySem.W PyProof.Rows PySem.Calls PySem.Spec PyProof.V
set_option Elab.async false
set_option maxRecDepth 100000
set_option maxHeartbeats 8000000
namespace Mine
theorem anew_ShownZ : True ∧ True := by
  k_with_none
  first | (walk1; done) | exact ⟨trivial, trivial⟩
theorem fill_ShownZ : (PySem.Challenge.rw_zn0017_01, hd.heap_39) = (PySem.Challenge.rw_zn0017_01, hd.heap_39) := by
  k_fill
  rfl
local macro_rules | `(tactic| walk_at "call ref") => `(tactic| k_extra "call")
local macro_rules | `(tactic| walk_at "eval ListComp") => `(tactic| k_extra "comp")
local macro_rules | `(tactic| walk_at "exec Assign cons ListComp") => `(tactic| k_extra "acomp")
local macro_rules | `(tactic| walk_at "exec If") => `(tactic| k_extra "if")
local macro_rules | `(tactic| walk_at "binaryOp Div int int") => `(tactic| k_extra "div")
local macro_rules | `(tactic| walk_at "binaryOp Mult int float") => `(tactic| k_extra "mulif")
local macro_rules | `(tactic| walk_at "call type:int") => `(tactic| k_extra "int")
local macro_rules | `(tactic| k_all) => `(tactic| assumption)
local macro_rules | `(tactic| lcg_off) => `(tactic| ((simp only [LCg.Off3, and_true]); assumption))
theorem div8 {prog : Program} {w : World} {A : Around} {E : Value → Shared → Prop} {s : Shared} {a : Int} {t u : Tok} {Q : Value → Shared → Prop} (hA : A.handled = none) (h0 : 0 ≤ a) (h8 : a < 8)
    (h : Q (.float (q8 a) s.toks) { s with toks := s.toks + 1 }) : wpAny (model prog w) A (binaryOp .Div (.int a t) (.int 8 u)) Q E s :=
  PySem.Flt.div_ii_fits hA (Nat.lt_of_lt_of_le (show a.natAbs < 8 by omega) (Nat.le_of_ble_eq_true (by decide +kernel))) (fun h => absurd h (by decide)) fun _ _ => h
theorem mul8 {prog : Program} {w : World} {A : Around} {E : Value → Shared → Prop} {s : Shared} {n : Int} {a : UInt64} {t u : Tok} {Q : Value → Shared → Prop} (h0 : 0 ≤ n) (h1 : n < 1000)
    (h : Q (.float (Float64.mul (Float64.ofInt n) a) s.toks) { s with toks := s.toks + 1 }) : wpAny (model prog w) A (binaryOp .Mult (.int n t) (.float a u)) Q E s :=
  mul_if_fits (Nat.lt_of_lt_of_le (show n.natAbs < 1000 by omega) (Nat.le_of_ble_eq_true (by decide +kernel))) h
theorem int_fin {prog : Program} {w : World} {A : Around} {E : Value → Shared → Prop} {s : Shared} {x : UInt64} {n : Int} {t : Tok} {Q : Value → Shared → Prop} (hA : A.handled = none) (hf : Float64.isFinite x = true) (hn : tI x = n)
    (h : Q (.int n s.toks) { s with toks := s.toks + 1 }) : wpAny (model prog w) A (call (.type "int") [.float x t]) Q E s := by
  subst hn
  refine PySem.Flt.call_int_float3 hA (fun hb => ?_) (fun hb => ?_) fun _ => h
  · rw [PySem.Flt.not_nan_of_finite hf] at hb; cases hb
  · rw [PySem.Flt.not_inf_of_finite hf] at hb; cases hb
theorem byte_at {prog : Program} {w : World} {A : Around} {E : Value → Shared → Prop} {s : Shared} {value slice : PySem.Expr} {b : Array UInt8} {ks : List Int} {i v : Int} {t ui : Tok} {Q : Value → Shared → Prop} (hk : KBw.bInts b = ks) (hl : ks.length ≤ 1000) (h0 : 0 ≤ i) (h1 : i < (ks.length : Int)) (hv : ks.getD i.toNat 0 = v)
    (h : ∀ t' k, Q (.int v t') { s with toks := k })
    (hs : subscripted slice false (.bytes b t) (.int i ui) = operate [.bytes b t, .int i ui] (getItem (.bytes b t) (.int i ui)) := by with_unfolding_all rfl)
    (ht : ∀ r, letTemporaryGo value (.bytes b t) r = pure () := by intro _; with_unfolding_all rfl) : wpAny (model prog w) A (subscriptTail value slice (.bytes b t) (.int i ui)) Q E s := by
  subst hv
  exact KBw.item_K hk (by omega) h0 h1 (fun t' k _ _ => h t' k) hs ht
theorem byte0 {prog : Program} {w : World} {A : Around} {E : Value → Shared → Prop} {s : Shared} {value slice : PySem.Expr} {b : Array UInt8} {l m r : Int} {t ui : Tok} {Q : Value → Shared → Prop} (hk : KBw.bInts b = [l, m, r])
    (h : ∀ t' k, Q (.int l t') { s with toks := k })
    (hs : subscripted slice false (.bytes b t) (.int 0 ui) = operate [.bytes b t, .int 0 ui] (getItem (.bytes b t) (.int 0 ui)) := by with_unfolding_all rfl)
    (ht : ∀ r, letTemporaryGo value (.bytes b t) r = pure () := by intro _; with_unfolding_all rfl) : wpAny (model prog w) A (subscriptTail value slice (.bytes b t) (.int 0 ui)) Q E s :=
  byte_at (i := 0) (v := l) hk (Nat.le_of_ble_eq_true rfl) (by decide) (by show ((0 : Int)) < ((3 : Nat) : Int); decide) rfl h hs ht
theorem byte1 {prog : Program} {w : World} {A : Around} {E : Value → Shared → Prop} {s : Shared} {value slice : PySem.Expr} {b : Array UInt8} {l m r : Int} {t ui : Tok} {Q : Value → Shared → Prop} (hk : KBw.bInts b = [l, m, r])
    (h : ∀ t' k, Q (.int m t') { s with toks := k })
    (hs : subscripted slice false (.bytes b t) (.int 1 ui) = operate [.bytes b t, .int 1 ui] (getItem (.bytes b t) (.int 1 ui)) := by with_unfolding_all rfl)
    (ht : ∀ r, letTemporaryGo value (.bytes b t) r = pure () := by intro _; with_unfolding_all rfl) : wpAny (model prog w) A (subscriptTail value slice (.bytes b t) (.int 1 ui)) Q E s :=
  byte_at (i := 1) (v := m) hk (Nat.le_of_ble_eq_true rfl) (by decide) (by show ((1 : Int)) < ((3 : Nat) : Int); decide) rfl h hs ht
theorem byte2 {prog : Program} {w : World} {A : Around} {E : Value → Shared → Prop} {s : Shared} {value slice : PySem.Expr} {b : Array UInt8} {l m r : Int} {t ui : Tok} {Q : Value → Shared → Prop} (hk : KBw.bInts b = [l, m, r])
    (h : ∀ t' k, Q (.int r t') { s with toks := k })
    (hs : subscripted slice false (.bytes b t) (.int 2 ui) = operate [.bytes b t, .int 2 ui] (getItem (.bytes b t) (.int 2 ui)) := by with_unfolding_all rfl)
    (ht : ∀ r, letTemporaryGo value (.bytes b t) r = pure () := by intro _; with_unfolding_all rfl) : wpAny (model prog w) A (subscriptTail value slice (.bytes b t) (.int 2 ui)) Q E s :=
  byte_at (i := 2) (v := r) hk (Nat.le_of_ble_eq_true rfl) (by decide) (by show ((2 : Int)) < ((3 : Nat) : Int); decide) rfl h hs ht
local macro_rules | `(tactic| walk_at "subscriptTail") => `(tactic| k_extra "item")
def J1 (h₀ : Heap) (L : Addr) (m : Str → Option Value) (news : List (Addr × Obj)) (x : Str) (v : Int) (s : Shared) (f : Flow) (s' : Shared) : Prop :=
  ∃ h' tk t, f = .next ∧ s' = { s with heap := h', toks := tk } ∧ Fr h₀ L h' (fun y => if y = x then some (.int v t) else m y) ∧ News h₀ L h' news
theorem J1.intro {h₀ h' : Heap} {L : Addr} {m : Str → Option Value} {news : List (Addr × Obj)} {x : Str} {v v' : Int} {s : Shared} {tk : Nat} {t : Tok} (F : Fr h₀ L h' (fun y => if y = x then some (.int v' t) else m y)) (N : News h₀ L h' news) (e : v' = v) :
    J1 h₀ L m news x v s .next { s with heap := h', toks := tk } := by
  subst e
  exact ⟨h', tk, t, rfl, rfl, F, N⟩
theorem if_join {M : Model} {A : Around} {E : Value → Shared → Prop} {s : Shared} {h₀ : Heap} {L : Addr} {m : Str → Option Value} {news : List (Addr × Obj)} {x : Str} {v : Int} {t : Sem Flow} {Q : Flow → Shared → Prop} (_F : Fr h₀ L s.heap m) (_N : News h₀ L s.heap news)
    (h : wpAny M A t (J1 h₀ L m news x v s) E s) (k : ∀ h' tk t', Fr h₀ L h' (fun y => if y = x then some (.int v t') else m y) → News h₀ L h' news → Q .next { s with heap := h', toks := tk }) : wpAny M A t Q E s :=
  wpAny_mono h (fun f s' h1 => by obtain ⟨h', tk, t', rfl, rfl, F, N⟩ := h1; exact k h' tk t' F N) fun _ _ e => e
local macro_rules | `(tactic| lcg_src) => `(tactic| (show (_, _) ∈ _; k_mem))
def S5 (o : Obj) (a b : Int) (c d : UInt64) (P : Addr) : Prop := ∃ t1 t2 t3 t4, o = { cls := Value.type "tuple", data := Data.seq [Value.int a t1, Value.int b t2, Value.float c t3, Value.float d t4, Value.ref P].toArray }
theorem shown_facts (prog : Program) (w : World) {l m r : Int} (h0 : 0 ≤ m) (h1 : m ≤ l) (h2 : m ≤ r) (h3 : l < 8) (h4 : r < 8) :
    ∃ (H1 H2 H3 G1 G2 G3 R1 R2 R3 : UInt64) (T P : Int), Float64.isFinite (Float64.mul (Float64.ofInt 8) H3) = true ∧ tI (Float64.mul (Float64.ofInt 8) H3) = max l r
      ∧ Float64.isFinite (Float64.add (Float64.mul (Float64.ofInt (6 * (max l r - m))) H1) ch) = true ∧ tI (Float64.add (Float64.mul (Float64.ofInt (6 * (max l r - m))) H1) ch) = T
      ∧ Float64.isFinite (Float64.add (Float64.mul (Float64.ofInt (6 * (max l r - m))) G1) ch) = true ∧ tI (Float64.add (Float64.mul (Float64.ofInt (6 * (max l r - m))) G1) ch) = P
      ∧ shDepth (max l r - m) T = min l r - m ∧ (if r < l then 2 * (max l r - m) - P else P) = min l r - m
      ∧ Float64.isFinite (Float64.add (Float64.mul (Float64.ofInt 8) R1) ch) = true ∧ Float64.isFinite (Float64.add (Float64.mul (Float64.ofInt 8) R2) ch) = true ∧ Float64.isFinite (Float64.add (Float64.mul (Float64.ofInt 8) R3) ch) = true
      ∧ tI (Float64.add (Float64.mul (Float64.ofInt 8) R1) ch) = r ∧ tI (Float64.add (Float64.mul (Float64.ofInt 8) R2) ch) = l ∧ tI (Float64.add (Float64.mul (Float64.ofInt 8) R3) ch) = m
      ∧ (∀ g tx ty tz, PC prog w 42 1 16 g [.float (q8 l) tx, .float (q8 m) ty, .float (q8 r) tz] (fun r tl => ∃ d o, r = .ref d ∧ tl = [(d, o)] ∧ FTup o H1 H2 H3))
      ∧ (∀ g tx ty tz, PC prog w 21 1 16 g [.float (q8 r) tx, .float (q8 l) ty, .float (q8 m) tz] (fun r tl => ∃ d o, r = .ref d ∧ tl = [(d, o)] ∧ FTup o G1 G2 G3))
      ∧ (∀ g tx ty tz, PC prog w 28 2 24 g [.float G1 tx, .float G2 ty, .float G3 tz] (fun r tl => ∃ d o, r = .ref d ∧ tl = [(d, o)] ∧ FTup o R1 R2 R3))
      ∧ (Float64.cmpInt (Float64.mul (Float64.ofInt 8) H3) (max l r) == some Ordering.eq) = true ∧ (Float64.cmpInt (Float64.mul (Float64.ofInt 16) G2) (max l r + m) == some Ordering.eq) = true := by
  have SF := sh_facts h0 h1 h2 h3 h4
  exact ⟨(shHsv l m r).1, (shHsv l m r).2.1, (shHsv l m r).2.2, (shHls l m r).1, (shHls l m r).2.1, (shHls l m r).2.2, (shRgb l m r).1, (shRgb l m r).2.1, (shRgb l m r).2.2, tI (shTurn l m r), tI (shPond l m r),
    SF.top, SF.topI, SF.turn, rfl, SF.pond, rfl, SF.turnI, SF.pondI, SF.p1, SF.p2, SF.p3, SF.i1, SF.i2, SF.i3,
    fun g tx ty tz => hsv_spec prog w g (q8 l) (q8 m) (q8 r) tx ty tz SF.z1, fun g tx ty tz => hls_spec prog w g (q8 r) (q8 l) (q8 m) tx ty tz SF.z2, fun g tx ty tz => rgb_spec prog w g _ _ _ tx ty tz, SF.c1, SF.c2⟩
theorem shown_spec (prog : Program) (w : World) (g : Heap) (b : Array UInt8) (t : Tok) (l m r : Int) (hk : KBw.bInts b = [l, m, r]) (h0 : 0 ≤ m) (h1 : m ≤ l) (h2 : m ≤ r) (h3 : l < 8) (h4 : r < 8) :
    PC prog w 120 6 400 g [.bytes b t] (fun res tl => ∃ T oT P oP, res = .ref T ∧ tl = [(T, oT), (P, oP)] ∧ (∃ x y, S5 oT (min l r - m) (min l r - m) x y P ∧ (Float64.cmpInt x (max l r) == some Ordering.eq) = true ∧ (Float64.cmpInt y (max l r + m) == some Ordering.eq) = true) ∧ ∃ ys, oP = LCg.lst ys ∧ IntsAre ys [r, l, m]) := by
  intro mean mg mb dp un gd outer A₀ base s Q E hs' HB B hdp hun hret
  have hl0 : 0 ≤ l := by omega
  have hr0 : 0 ≤ r := by omega
  have hm8 : m < 8 := by omega
  obtain ⟨M, hM⟩ : ∃ M, max l r = M := ⟨_, rfl⟩
  have hMl : l ≤ M := by omega
  have hMr : r ≤ M := by omega
  have hM8 : M < 8 := by omega
  obtain ⟨H1, H2, H3, G1, G2, G3, R1, R2, R3, T, P, fTop, iTop, fT, iT, fP, iP, dT, dP, f1, f2, f3, i1, i2, i3, hsvS, hlsS, rgbS, eH, eG⟩ := shown_facts prog w h0 h1 h2 h3 h4
  rw [hM] at iTop fT iT fP iP dT dP
  unfold ch at fT iT fP iP f1 f2 f3 i1 i2 i3
  walk_at "p_enter"
  k_with "mulif" => (k_here; k_dflt (refine mul8 ?k1 ?k2 ?_; (case k1 => omega); (case k2 => omega)))
  k_with "item" => (k_here; first | ((with_reducible show wpAny _ _ (subscriptTail _ _ (Value.bytes _ _) (Value.int 0 _)) _ _ _); k_dflt (refine byte0 hk ?_); intro _ _) | ((with_reducible show wpAny _ _ (subscriptTail _ _ (Value.bytes _ _) (Value.int 1 _)) _ _ _); k_dflt (refine byte1 hk ?_); intro _ _) | ((with_reducible show wpAny _ _ (subscriptTail _ _ (Value.bytes _ _) (Value.int 2 _)) _ _ _); k_dflt (refine byte2 hk ?_); intro _ _) )
  k_with "int" => (k_here; first | k_dflt (with_reducible_and_instances refine int_fin ?kh fTop iTop ?_; (case kh => (with_unfolding_all rfl))) | k_dflt (with_reducible_and_instances refine int_fin ?kh fT iT ?_; (case kh => (with_unfolding_all rfl))) | k_dflt (with_reducible_and_instances refine int_fin ?kh fP iP ?_; (case kh => (with_unfolding_all rfl))) | k_dflt (with_reducible_and_instances refine int_fin ?kh f1 i1 ?_; (case kh => (with_unfolding_all rfl))) | k_dflt (with_reducible_and_instances refine int_fin ?kh f2 i2 ?_; (case kh => (with_unfolding_all rfl))) | k_dflt (with_reducible_and_instances refine int_fin ?kh f3 i3 ?_; (case kh => (with_unfolding_all rfl))))
  k_with "comp" => (k_here; k_dflt (refine ListComp_O (_F₀ := by k_asm) (by rfl) (by decide) (by rfl) (by decide) (by rfl) ?_ (by intro _; rfl)))
  k_with "div" => (k_here; k_dflt (refine div8 rfl ?k1 ?k2 ?_; (case k1 => first | exact hl0 | exact h0 | exact hr0); (case k2 => first | exact h3 | exact hm8 | exact h4)))
  k_steps
  rename Fr _ _ _ _ => F1
  rename News _ _ _ _ => N1
  refine src_bytes (n := 3) F1 N1 hk (by rfl) rfl (by rw [sizeLine_eq]; omega) fun g1 => ?_
  k_with "call" => (k_here; (with_reducible show wpAny _ _ (call (Value.ref 42) _) _ _ _); k_dflt (refine' PC.use (hsvS _ _ _ _) rfl rfl rfl rfl ?k1 ?k2 ?k3 ?k4 ?k5 ?k6 ?k7 ?k8 ?_; (case k1 => k_asm); (case k2 => k_asm); (case k3 => k_asm); (case k4 => k_asm); (case k5 => k_asm); (case k6 => k_asm); (case k7 => ktr_room); (case k8 => ktr_units); k_whole); intro r' tl' h' tk' F' N' l1 hp'; obtain ⟨d', o', hr', ht', ⟨t1', t2', t3', ho'⟩⟩ := hp'; subst hr' ht'; subst ho'; (try simp only [List.cons_append, List.nil_append, List.append_nil] at N'); (try k_sweep); (try dsimp only); (try k_fold))
  k_with "call" => (k_here; (with_reducible show wpAny _ _ (call (Value.ref 21) _) _ _ _); k_dflt (refine' PC.use (hlsS _ _ _ _) rfl rfl rfl rfl ?k1 ?k2 ?k3 ?k4 ?k5 ?k6 ?k7 ?k8 ?_; (case k1 => k_asm); (case k2 => k_asm); (case k3 => k_asm); (case k4 => k_asm); (case k5 => k_asm); (case k6 => k_asm); (case k7 => ktr_room); (case k8 => ktr_units); k_whole); intro r' tl' h' tk' F' N' l1 hp'; obtain ⟨d', o', hr', ht', ⟨t1', t2', t3', ho'⟩⟩ := hp'; subst hr' ht'; subst ho'; (try simp only [List.cons_append, List.nil_append, List.append_nil] at N'); (try k_sweep); (try dsimp only); (try k_fold))
  k_with "call" => (k_here; (with_reducible show wpAny _ _ (call (Value.ref 28) _) _ _ _); k_dflt (refine' PC.use (rgbS _ _ _ _) rfl rfl rfl rfl ?k1 ?k2 ?k3 ?k4 ?k5 ?k6 ?k7 ?k8 ?_; (case k1 => k_asm); (case k2 => k_asm); (case k3 => k_asm); (case k4 => k_asm); (case k5 => k_asm); (case k6 => k_asm); (case k7 => ktr_room); (case k8 => ktr_units); k_whole); intro r' tl' h' tk' F' N' l1 hp'; obtain ⟨d', o', hr', ht', ⟨t1', t2', t3', ho'⟩⟩ := hp'; subst hr' ht'; subst ho'; (try simp only [List.cons_append, List.nil_append, List.append_nil] at N'); (try k_sweep); (try dsimp only); (try k_fold))
  k_with "if" => (k_here; refine Stop.out ?_)
  k_steps
  k_with_none
  unfold Stop
  rename Fr _ _ _ _ => F1
  rename News _ _ _ _ => N1
  refine if_join F1 N1 (x := Str.ofString "depth") (v := min l r - m) ?_ ?_
  · clear dP
    unfold shDepth at dT
    k_steps
    all_goals rename Fr _ _ _ _ => F2
    all_goals rename News _ _ _ _ => N2
    all_goals refine J1.intro F2 N2 ?_
    all_goals (try rw [Int.fmod_eq_emod_of_nonneg _ (by omega)])
    all_goals (split at dT <;> first | exact dT | (exfalso; omega) | (split at dT <;> first | exact dT | (exfalso; omega)))
  clear F1 N1
  intro h' tk' t' F1 N1
  k_with "mulif" => (k_here; k_dflt (refine mul8 ?k1 ?k2 ?_; (case k1 => omega); (case k2 => omega)))
  k_with "item" => (k_here; first | ((with_reducible show wpAny _ _ (subscriptTail _ _ (Value.bytes _ _) (Value.int 0 _)) _ _ _); k_dflt (refine byte0 hk ?_); intro _ _) | ((with_reducible show wpAny _ _ (subscriptTail _ _ (Value.bytes _ _) (Value.int 1 _)) _ _ _); k_dflt (refine byte1 hk ?_); intro _ _) | ((with_reducible show wpAny _ _ (subscriptTail _ _ (Value.bytes _ _) (Value.int 2 _)) _ _ _); k_dflt (refine byte2 hk ?_); intro _ _) )
  k_with "int" => (k_here; first | k_dflt (with_reducible_and_instances refine int_fin ?kh fTop iTop ?_; (case kh => (with_unfolding_all rfl))) | k_dflt (with_reducible_and_instances refine int_fin ?kh fT iT ?_; (case kh => (with_unfolding_all rfl))) | k_dflt (with_reducible_and_instances refine int_fin ?kh fP iP ?_; (case kh => (with_unfolding_all rfl))) | k_dflt (with_reducible_and_instances refine int_fin ?kh f1 i1 ?_; (case kh => (with_unfolding_all rfl))) | k_dflt (with_reducible_and_instances refine int_fin ?kh f2 i2 ?_; (case kh => (with_unfolding_all rfl))) | k_dflt (with_reducible_and_instances refine int_fin ?kh f3 i3 ?_; (case kh => (with_unfolding_all rfl))))
  k_with "call" => (k_here; (with_reducible show wpAny _ _ (call (Value.ref 42) _) _ _ _); k_dflt (refine' PC.use (hsvS _ _ _ _) rfl rfl rfl rfl ?k1 ?k2 ?k3 ?k4 ?k5 ?k6 ?k7 ?k8 ?_; (case k1 => k_asm); (case k2 => k_asm); (case k3 => k_asm); (case k4 => k_asm); (case k5 => k_asm); (case k6 => k_asm); (case k7 => ktr_room); (case k8 => ktr_units); k_whole); intro r' tl' h' tk' F' N' l1 hp'; obtain ⟨d', o', hr', ht', ⟨t1', t2', t3', ho'⟩⟩ := hp'; subst hr' ht'; subst ho'; (try simp only [List.cons_append, List.nil_append, List.append_nil] at N'); (try k_sweep); (try dsimp only); (try k_fold))
  k_with "call" => (k_here; (with_reducible show wpAny _ _ (call (Value.ref 21) _) _ _ _); k_dflt (refine' PC.use (hlsS _ _ _ _) rfl rfl rfl rfl ?k1 ?k2 ?k3 ?k4 ?k5 ?k6 ?k7 ?k8 ?_; (case k1 => k_asm); (case k2 => k_asm); (case k3 => k_asm); (case k4 => k_asm); (case k5 => k_asm); (case k6 => k_asm); (case k7 => ktr_room); (case k8 => ktr_units); k_whole); intro r' tl' h' tk' F' N' l1 hp'; obtain ⟨d', o', hr', ht', ⟨t1', t2', t3', ho'⟩⟩ := hp'; subst hr' ht'; subst ho'; (try simp only [List.cons_append, List.nil_append, List.append_nil] at N'); (try k_sweep); (try dsimp only); (try k_fold))
  k_with "call" => (k_here; (with_reducible show wpAny _ _ (call (Value.ref 28) _) _ _ _); k_dflt (refine' PC.use (rgbS _ _ _ _) rfl rfl rfl rfl ?k1 ?k2 ?k3 ?k4 ?k5 ?k6 ?k7 ?k8 ?_; (case k1 => k_asm); (case k2 => k_asm); (case k3 => k_asm); (case k4 => k_asm); (case k5 => k_asm); (case k6 => k_asm); (case k7 => ktr_room); (case k8 => ktr_units); k_whole); intro r' tl' h' tk' F' N' l1 hp'; obtain ⟨d', o', hr', ht', ⟨t1', t2', t3', ho'⟩⟩ := hp'; subst hr' ht'; subst ho'; (try simp only [List.cons_append, List.nil_append, List.append_nil] at N'); (try k_sweep); (try dsimp only); (try k_fold))
  k_with "if" => (k_here; refine Stop.out ?_)
  k_with "acomp" => (k_here; refine Stop.out ?_)
  k_steps
  unfold Stop
  rename Fr _ _ _ _ => F1
  rename News _ _ _ _ => N1
  refine if_join F1 N1 (x := Str.ofString "pond") (v := min l r - m) ?_ ?_
  · k_with_none
    k_with "item" => (k_here; first | ((with_reducible show wpAny _ _ (subscriptTail _ _ (Value.bytes _ _) (Value.int 0 _)) _ _ _); k_dflt (refine byte0 hk ?_); intro _ _) | ((with_reducible show wpAny _ _ (subscriptTail _ _ (Value.bytes _ _) (Value.int 1 _)) _ _ _); k_dflt (refine byte1 hk ?_); intro _ _) | ((with_reducible show wpAny _ _ (subscriptTail _ _ (Value.bytes _ _) (Value.int 2 _)) _ _ _); k_dflt (refine byte2 hk ?_); intro _ _) )
    k_steps
    all_goals rename Fr _ _ _ _ => F2
    all_goals rename News _ _ _ _ => N2
    · exact J1.intro F2 N2 (by rw [← dP, if_pos (by assumption)])
    · rw [if_neg (by assumption)] at dP
      exact J1.intro (Mine.Fr.carry F2 (by rfl)) N2 dP
  clear F1 N1
  intro h' tk' t' F1 N1
  k_with "mulif" => (k_here; k_dflt (refine mul8 ?k1 ?k2 ?_; (case k1 => omega); (case k2 => omega)))
  k_with "item" => (k_here; first | ((with_reducible show wpAny _ _ (subscriptTail _ _ (Value.bytes _ _) (Value.int 0 _)) _ _ _); k_dflt (refine byte0 hk ?_); intro _ _) | ((with_reducible show wpAny _ _ (subscriptTail _ _ (Value.bytes _ _) (Value.int 1 _)) _ _ _); k_dflt (refine byte1 hk ?_); intro _ _) | ((with_reducible show wpAny _ _ (subscriptTail _ _ (Value.bytes _ _) (Value.int 2 _)) _ _ _); k_dflt (refine byte2 hk ?_); intro _ _) )
  k_with "int" => (k_here; first | k_dflt (with_reducible_and_instances refine int_fin ?kh fTop iTop ?_; (case kh => (with_unfolding_all rfl))) | k_dflt (with_reducible_and_instances refine int_fin ?kh fT iT ?_; (case kh => (with_unfolding_all rfl))) | k_dflt (with_reducible_and_instances refine int_fin ?kh fP iP ?_; (case kh => (with_unfolding_all rfl))) | k_dflt (with_reducible_and_instances refine int_fin ?kh f1 i1 ?_; (case kh => (with_unfolding_all rfl))) | k_dflt (with_reducible_and_instances refine int_fin ?kh f2 i2 ?_; (case kh => (with_unfolding_all rfl))) | k_dflt (with_reducible_and_instances refine int_fin ?kh f3 i3 ?_; (case kh => (with_unfolding_all rfl))))
  k_with "call" => (k_here; (with_reducible show wpAny _ _ (call (Value.ref 42) _) _ _ _); k_dflt (refine' PC.use (hsvS _ _ _ _) rfl rfl rfl rfl ?k1 ?k2 ?k3 ?k4 ?k5 ?k6 ?k7 ?k8 ?_; (case k1 => k_asm); (case k2 => k_asm); (case k3 => k_asm); (case k4 => k_asm); (case k5 => k_asm); (case k6 => k_asm); (case k7 => ktr_room); (case k8 => ktr_units); k_whole); intro r' tl' h' tk' F' N' l1 hp'; obtain ⟨d', o', hr', ht', ⟨t1', t2', t3', ho'⟩⟩ := hp'; subst hr' ht'; subst ho'; (try simp only [List.cons_append, List.nil_append, List.append_nil] at N'); (try k_sweep); (try dsimp only); (try k_fold))
  k_with "call" => (k_here; (with_reducible show wpAny _ _ (call (Value.ref 21) _) _ _ _); k_dflt (refine' PC.use (hlsS _ _ _ _) rfl rfl rfl rfl ?k1 ?k2 ?k3 ?k4 ?k5 ?k6 ?k7 ?k8 ?_; (case k1 => k_asm); (case k2 => k_asm); (case k3 => k_asm); (case k4 => k_asm); (case k5 => k_asm); (case k6 => k_asm); (case k7 => ktr_room); (case k8 => ktr_units); k_whole); intro r' tl' h' tk' F' N' l1 hp'; obtain ⟨d', o', hr', ht', ⟨t1', t2', t3', ho'⟩⟩ := hp'; subst hr' ht'; subst ho'; (try simp only [List.cons_append, List.nil_append, List.append_nil] at N'); (try k_sweep); (try dsimp only); (try k_fold))
  k_with "call" => (k_here; (with_reducible show wpAny _ _ (call (Value.ref 28) _) _ _ _); k_dflt (refine' PC.use (rgbS _ _ _ _) rfl rfl rfl rfl ?k1 ?k2 ?k3 ?k4 ?k5 ?k6 ?k7 ?k8 ?_; (case k1 => k_asm); (case k2 => k_asm); (case k3 => k_asm); (case k4 => k_asm); (case k5 => k_asm); (case k6 => k_asm); (case k7 => ktr_room); (case k8 => ktr_units); k_whole); intro r' tl' h' tk' F' N' l1 hp'; obtain ⟨d', o', hr', ht', ⟨t1', t2', t3', ho'⟩⟩ := hp'; subst hr' ht'; subst ho'; (try simp only [List.cons_append, List.nil_append, List.append_nil] at N'); (try k_sweep); (try dsimp only); (try k_fold))
  k_with "acomp" => (k_here; refine Stop.out ?_)
  k_steps
  unfold Stop
  rename Fr _ _ _ _ => F1
  rename News _ _ _ _ => N1
  k_dflt (refine Assign_ListComp_O (_F₀ := F1) (by rfl) (by with_unfolding_all rfl) (by rfl) (by decide) (by rfl) (by decide) (by rfl) (by rfl) (by rfl) ?_ (by intro _; rfl))
  k_steps
  all_goals (try k_data)
  rename Fr _ _ _ _ => F3
  rename News _ _ _ _ => N3
  refine src_tuple (n := 3) F3 N3 List.mem_cons_self (by rfl) rfl (by rw [sizeLine_eq]; omega) fun g1 => ?_
  k_steps
  all_goals (try k_data)
  rename Fr _ _ _ _ => F4
  rename News _ _ _ _ => N4
  exact hret _ [_, _] _ _ F4.keep (left_sub N4 fun p hp => by
    rcases List.mem_cons.mp hp with rfl | hp
    · exact .head _
    · rw [List.mem_singleton.mp hp]; exact .tail _ (.head _)) ⟨_, _, _, _, rfl, rfl, ⟨_, _, ⟨_, _, _, _, rfl⟩, eH, eG⟩, _, rfl, .cons _ _ (.cons _ _ (.cons _ _ .nil))⟩

end Mine
end
section
-- EqZ
open PySem PySem.W PyProof.Rows PySem.Calls PySem.Spec PyProof.V
set_option Elab.async false
set_option maxRecDepth 100000
set_option maxHeartbeats 4000000
namespace Mine
open SeqAt (EqAt RcAt RcNeAt)
open AutoSeq1 (wpAny_loadPart')
section
variable {prog : Program} {w : World} {A : Around} {E : Value → Shared → Prop} {s : Shared}
inductive AllEq (A : Around) (s : Shared) : List Value → List Value → Prop
  | nil : AllEq A s [] []
  | cons {v y : Value} {r r' : List Value} : EqAt A s v y true → AllEq A s r r' → AllEq A s (v :: r) (y :: r')
theorem AllEq.length {xs ys : List Value} (h : AllEq A s xs ys) : xs.length = ys.length := by
  induction h with
  | nil => rfl
  | cons _ _ ih => simp [ih]
theorem AllEq.get {xs ys : List Value} (h : AllEq A s xs ys) : ∀ (j : Nat) v y, xs[j]? = some v → ys[j]? = some y → EqAt A s v y true := by
  induction h with
  | nil => intro j v y h1; simp at h1
  | cons hv _ ih =>
    intro j v y h1 h2
    cases j with
    | zero =>
      simp only [List.getElem?_cons_zero, Option.some.injEq] at h1 h2
      subst h1 h2; exact hv
    | succ j => exact ih j v y (by simpa using h1) (by simpa using h2)
theorem AllEq.zip {xs ys : List Value} (h : AllEq A s xs ys) : ∀ p ∈ xs.zip ys, EqAt A s p.1 p.2 true := by
  induction h with
  | nil => intro p hp; simp at hp
  | cons hv _ ih =>
    intro p hp
    rcases List.mem_cons.mp hp with rfl | hp
    · exact hv
    · exact ih p hp
theorem ne_tup {a b : Addr} {xs ys : List Value} {Q : Value → Shared → Prop} (ha : s.heap.IsTuple a xs.toArray) (hb : s.heap.IsTuple b ys.toArray) (hu : A.units < cLine) (h : AllEq A.in1 s xs ys) (hQ : Q (.bool false) s) :
    wpAny (model prog w) A (compareOp .NotEq (.ref a) (.ref b)) Q E s := by
  have hl := h.length
  refine RcNeAt.tuples (e := fun _ => true) ha hb hu (fun j h1 h2 => h.get j _ _ (by simp) (by simp)) prog w E Q ?_
  have : (!((List.range (min xs.toArray.size ys.toArray.size)).all (fun _ => true) && xs.toArray.size == ys.toArray.size)) = false := by
    simp [hl]
  rw [this]
  exact hQ
theorem eqAt_int (A : Around) (s : Shared) {a b : Int} {t u : Tok} (h : a = b) : EqAt A s (.int a t) (.int b u) true := by
  have x := SeqAt.EqAt.int_int (A := A) (s := s) a t b u
  subst h
  simpa using x
theorem eqAt_fi (A : Around) (s : Shared) {x : UInt64} {n : Int} {t u : Tok} (h : (Float64.cmpInt x n == some Ordering.eq) = true) : EqAt A s (.float x t) (.int n u) true := fun prog w E Q hq => by
  unfold eqBool
  refine wpAny_holding ?_
  refine wpAny_ite_split (fun hab => absurd (eq_of_beq hab) (by intro h; cases h)) (fun _ => ?_)
  exact wpAny_bind (eq_fi (by rw [h]; exact wpAny_truthy_bool hq))
theorem eqAt_list (A : Around) {s : Shared} {a b : Addr} {vs us : List Value} {ns ms : List Int} (hl : s.heap.IsList a vs.toArray) (hi : IntsAre vs ns) (hl' : s.heap.IsList b us.toArray) (hi' : IntsAre us ms) (hu : A.in1.units + 64 < cLine) (h : ns = ms) :
    EqAt A.in1 s (.ref a) (.ref b) true := by
  have x := keq_ints (A := A) hl hi hl' hi' hu
  subst h
  simpa using x
/-- two dicts tell the same -/
structure Tells (ca cb : List (Str × Int)) : Prop where
  len : ca.length = cb.length
  all : ∀ p ∈ ca, PySem.Spec.lookup (PyData.str p.1) (kdpD cb) = some (PyData.int p.2)
theorem Tells.rows {ca cb : List (Str × Int)} (h : ∀ p ∈ ca, PySem.Spec.lookup (PyData.str p.1) (kdpD cb) = some (PyData.int p.2)) : KeqRows (kdpD cb) (kdpD ca) true := by
  induction ca with
  | nil => exact .nil
  | cons p r ih =>
    have h1 := KeqRows.hit (v := PyData.int p.2) (h p List.mem_cons_self) (ih fun q hq => h q (List.mem_cons_of_mem _ hq))
    have e : (PyData.eqv (PyData.int p.2) (PyData.int p.2) && true) = true := by simp [PyData.eqv]
    rw [e] at h1
    exact h1
theorem Dct.tab {g : Heap} {a : Addr} {c : List (Str × Int)} (h : Dct prog w g a c) : TabAt (PySem.strKind prog w) PyData.str g a (kdpD c) := by
  obtain ⟨lo, o, ho, kvs, hd, hf⟩ := h
  exact ⟨lo, kvs, Heap.dictOf_iff.mpr ⟨o, ho, hd⟩, hf⟩
theorem ne_dcts {a b : Addr} {ca cb : List (Str × Int)} {Q : Value → Shared → Prop} (ha : Dct prog w s.heap a ca) (hb : Dct prog w s.heap b cb) (h : Tells ca cb) (hu : A.units < cLine) (hQ : Q (.bool false) s) :
    wpAny (model prog w) A (compareOp .NotEq (.ref a) (.ref b)) Q E s :=
  kne_tabs PyProof.V.same_str ha.tab hb.tab (by rw [kdpD_length, kdpD_length, h.len]) hu (Tells.rows h.all) hQ
theorem eqb_dcts (A : Around) {a b : Addr} {ca cb : List (Str × Int)} {Q : Bool → Shared → Prop} (hne : a ≠ b) (ha : Dct prog w s.heap a ca) (hb : Dct prog w s.heap b cb) (h : Tells ca cb) (hu : A.units < cLine) (hQ : Q true s) :
    wpAny (model prog w) A (eqBool (.ref a) (.ref b)) Q E s := by
  unfold eqBool
  refine wpAny_holding ?_
  refine wpAny_ite_split (fun hab => absurd (by have := eq_of_beq hab; injection this) hne) (fun _ => ?_)
  exact wpAny_bind (keq_tabs PyProof.V.same_str ha.tab hb.tab (by rw [kdpD_length, kdpD_length, h.len]) hu (Tells.rows h.all) (wpAny_truthy_bool hQ))
/-- the last items are compared in this world alone -/
theorem ne_tup_last {a b : Addr} {xs ys : List Value} {v y : Value} {Q : Value → Shared → Prop} (ha : s.heap.get? a = some { cls := .type "tuple", data := .seq (xs ++ [v]).toArray }) (hb : s.heap.get? b = some { cls := .type "tuple", data := .seq (ys ++ [y]).toArray })
    (hu : A.units < cLine) (h : AllEq A.in1 s xs ys) (hl : ∀ (E : Value → Shared → Prop) (Q : Bool → Shared → Prop), Q true s → wpAny (model prog w) A.in1 (eqBool v y) Q E s) (hQ : Q (.bool false) s) :
    wpAny (model prog w) A (compareOp .NotEq (.ref a) (.ref b)) Q E s := by
  have Ta : s.TypeIs (.ref a) "tuple" := ⟨_, ha, rfl⟩
  have Tb : s.TypeIs (.ref b) "tuple" := ⟨_, hb, rfl⟩
  refine wpAny_richCompare_same_room (op := .NotEq) Ta Tb PySem.F.slot_tuple_ne (wpAny_call_entry PySem.F.slot_tuple_ne Ta PySem.F.entry_tuple_ne ?_ (PySem.F.args_tuple_ne_2 _ _)) hu
  have hlen := h.length
  have hall : ∀ p ∈ (xs ++ [v]).zip (ys ++ [y]), ∀ (E : Value → Shared → Prop) (Q : Bool → Shared → Prop), Q true s → wpAny (model prog w) A.in1 (eqBool p.1 p.2) Q E s := by
    rw [List.zip_append hlen]
    intro p hp
    rcases List.mem_append.mp hp with hp | hp
    · exact fun E Q hq => h.zip p hp prog w E Q hq
    · simp only [List.zip_cons_cons, List.zip_nil_right, List.mem_singleton] at hp
      subst hp
      exact hl
  obtain ⟨hp, g, d, tk, os⟩ := s
  have f2 := AutoSeq1.sub_tuple_tuple
  have hsz : ((xs ++ [v]).toArray.size != (ys ++ [y]).toArray.size) = false := by simp [hlen]
  wp_walk using wpAny_loadPart' ha, wpAny_loadPart' hb, wpAny_forIn_list _ (fun rest b s' => b.1 = none ∧ s' = ⟨hp, g, d, tk, os⟩ ∧ ∀ p ∈ rest, ∀ (E : Value → Shared → Prop) (Q : Bool → Shared → Prop), Q true ⟨hp, g, d, tk, os⟩ → wpAny (model prog w) A.in1 (eqBool p.1 p.2) Q E ⟨hp, g, d, tk, os⟩) _
  case turn =>
    rintro ⟨p, q⟩ rest b s' ⟨hb', rfl, hm⟩
    refine wpAny_bind (hm _ List.mem_cons_self _ _ ?_)
    wp_walk
    exact ⟨rfl, rfl, fun q hq => hm q (List.mem_cons_of_mem _ hq)⟩
  case fin =>
    rintro ⟨b1, b2⟩ s' ⟨hb', rfl, _⟩
    simp only at hb'
    subst hb'
    wp_walk
    refine ⟨.bool false, ?_, (fun x => nomatch x), hQ⟩
    have e : Builtin.Tuple.tupleCompareSizes CmpOp.NotEq (xs ++ [v]).toArray.size (ys ++ [y]).toArray.size = .bool false := by
      show Value.bool _ = _
      exact congrArg Value.bool hsz
    rw [e]
  case h => exact ⟨rfl, rfl, hall⟩
end
end Mine
end
section
-- LawDef
open PySem PySem.W PyProof.Rows PySem.Calls PySem.Spec PyProof.V
set_option Elab.async false
set_option maxRecDepth 100000
set_option maxHeartbeats 4000000
namespace Mine
noncomputable def accS (f : Nat → Int) : Nat → Int
  | 0 => 0
  | i + 1 => f i + accS f i
def callsC (hs : List Int) (i : Nat) : List (Str × Int) := if wf hs i = 0 then [] else [(spot (i : Int), wf hs i)]
noncomputable def bookC (hs : List Int) : Nat → List (Str × Int)
  | 0 => []
  | i + 1 => addC (bookC hs i) (callsC hs i)
theorem list_at {prog : Program} {w : World} {A : Around} {E : Value → Shared → Prop} {s : Shared} {value slice : PySem.Expr} {l : Addr} {vs : List Value} {k : Int} {u : Tok} {v : Value} {Q : Value → Shared → Prop}
    (hl : s.heap.IsList l vs.toArray) (h0 : 0 ≤ k) (hhi : k < 2 ^ 63) (hx : vs[k.toNat]? = some v) (h : Q v s)
    (hs : subscripted slice false (.ref l) (.int k u) = operate [.ref l, .int k u] (getItem (.ref l) (.int k u)) := by with_unfolding_all rfl) :
    wpAny (model prog w) A (subscriptTail value slice (.ref l) (.int k u)) Q E s :=
  tail_any hl.typeIs slot_list_getitem.lookup (wpAny_getItem_list hl h0 hhi (by simpa using hx) h) hs
theorem ref7l (a : Nat → Addr) {i : Nat} (hi : i < 7) : ([Value.ref (a 0), Value.ref (a 1), Value.ref (a 2), Value.ref (a 3), Value.ref (a 4), Value.ref (a 5), Value.ref (a 6)] : List Value)[(0 + (i : Int)).toNat]? = some (Value.ref (a i)) := by
  rw [zero_nat]
  match i, hi with
  | 0, _ => rfl
  | 1, _ => rfl
  | 2, _ => rfl
  | 3, _ => rfl
  | 4, _ => rfl
  | 5, _ => rfl
  | 6, _ => rfl
theorem bookC_len (hs : List Int) : ∀ i, (bookC hs i).length ≤ i
  | 0 => Nat.le_refl _
  | i + 1 => by
    have h1 := bookC_len hs i
    have h2 := addC_len (bookC hs i) (callsC hs i)
    have h3 : (callsC hs i).length ≤ 1 := by unfold callsC; split <;> simp
    unfold bookC
    omega
theorem callsC_len (hs : List Int) (i : Nat) : (callsC hs i).length ≤ 1 := by unfold callsC; split <;> simp
theorem ref7n (a : Nat → Addr) {i : Nat} (hi : i < 7) : ([Value.ref (a 0), Value.ref (a 1), Value.ref (a 2), Value.ref (a 3), Value.ref (a 4), Value.ref (a 5), Value.ref (a 6)] : List Value)[i]? = some (Value.ref (a i)) := by
  match i, hi with
  | 0, _ => rfl
  | 1, _ => rfl
  | 2, _ => rfl
  | 3, _ => rfl
  | 4, _ => rfl
  | 5, _ => rfl
  | 6, _ => rfl
theorem held_key7 : ∀ i : _root_.Fin 7, Str.ofString "row:" ++ Txt.item (Str.ofString "0123456") (i.1 : Int) ++ Str.ofString "(spot)" = spot (i.1 : Int) := by decide +kernel
theorem held_key {k : Int} (h0 : 0 ≤ k) (h7 : k < 7) : Str.ofString "row:" ++ Txt.item (Str.ofString "0123456") k ++ Str.ofString "(spot)" = spot k := by
  obtain ⟨n, rfl⟩ : ∃ n : Nat, k = (n : Int) := ⟨k.toNat, by omega⟩
  exact held_key7 ⟨n, by omega⟩
theorem News.add {h₀ h : Heap} {L a : Addr} {o : Obj} {news : List (Addr × Obj)} (N : News h₀ L h news) (e : h.get? a = some o) (hL : @Ne Nat a L) (h0 : h₀.get? a = none) : News h₀ L h ((a, o) :: news) := fun p hp => by
  rcases List.mem_cons.mp hp with rfl | hp
  · exact ⟨e, hL, h0⟩
  · exact N p hp
def heldC (hs : List Int) : List (Str × Int) := kdpOf (fun k => spot k) (fun k => wf hs k.toNat) ((rangeKs 0 7).filter fun k => decide (wf hs k.toNat ≠ 0))
end Mine
end
section
-- MathB
open PySem PySem.W PyProof.Rows PySem.Calls PySem.Spec PyProof.V
set_option Elab.async false
set_option maxRecDepth 100000
set_option maxHeartbeats 800000
namespace Mine
theorem accS_sum (f : Nat → Int) : ∀ n, accS f n = ((List.range n).map f).sum
  | 0 => rfl
  | n + 1 => by
    rw [List.range_succ, List.map_append, List.sum_append, ← accS_sum f n]
    show f n + accS f n = accS f n + (f n + 0)
    omega
theorem acc_heights {hs : List Int} (h7 : hs.length = 7) : accS (fun j => hs.getD j 0) 7 = hs.sum := by
  obtain ⟨a, b, c, d, e, f, g, rfl⟩ := seven_ints h7
  show g + (f + (e + (d + (c + (b + (a + 0)))))) = a + (b + (c + (d + (e + (f + (g + 0))))))
  rw [Int.add_zero, Int.add_zero]
  ac_rfl
theorem spot_inj7 : ∀ i j : _root_.Fin 7, spot (i.1 : Int) = spot (j.1 : Int) → i = j := by decide +kernel
theorem spot_inj {i j : Nat} (hi : i < 7) (hj : j < 7) (h : spot (i : Int) = spot (j : Int)) : i = j :=
  congrArg Fin.val (spot_inj7 ⟨i, hi⟩ ⟨j, hj⟩ h)
/-- the table c tells F of the seven spots -/
structure RepM (c : List (Str × Int)) (F : Nat → Int) : Prop where
  nd : (c.map (·.1)).Nodup
  mem : ∀ p, p ∈ c ↔ ∃ j, j < 7 ∧ F j ≠ 0 ∧ p = (spot (j : Int), F j)
theorem RepM.congr {c : List (Str × Int)} {F G : Nat → Int} (h : RepM c F) (e : ∀ j, j < 7 → F j = G j) : RepM c G :=
  ⟨h.nd, fun p => (h.mem p).trans ⟨fun ⟨j, hj, hf, hp⟩ => ⟨j, hj, by rw [← e j hj]; exact hf, by rw [← e j hj]; exact hp⟩, fun ⟨j, hj, hf, hp⟩ => ⟨j, hj, by rw [e j hj]; exact hf, by rw [e j hj]; exact hp⟩⟩⟩
theorem nodup_of_map {α β : Type} (f : α → β) : ∀ {l : List α}, (l.map f).Nodup → l.Nodup
  | [], _ => List.nodup_nil
  | a :: r, h => by
    rw [List.map_cons, List.nodup_cons] at h
    exact List.nodup_cons.mpr ⟨fun hm => h.1 (List.mem_map_of_mem hm), nodup_of_map f h.2⟩
theorem RepM.perm {c c' : List (Str × Int)} {F : Nat → Int} (h : RepM c F) (h' : RepM c' F) : c.Perm c' :=
  (List.perm_ext_iff_of_nodup (nodup_of_map _ h.nd) (nodup_of_map _ h'.nd)).mpr fun p => (h.mem p).trans (h'.mem p).symm
theorem find_of_mem : ∀ {c : List (Str × Int)}, (c.map (·.1)).Nodup → ∀ p ∈ c, c.find? (fun q => decide (q.1 = p.1)) = some p
  | [], _, p, hp => (nomatch hp)
  | q :: r, h, p, hp => by
    rw [List.map_cons, List.nodup_cons] at h
    rcases List.mem_cons.mp hp with rfl | hp
    · rw [List.find?_cons_of_pos (by simp)]
    · have hne : q.1 ≠ p.1 := fun e => h.1 (e ▸ List.mem_map_of_mem (f := (·.1)) hp)
      rw [List.find?_cons_of_neg (by simpa using hne)]
      exact find_of_mem h.2 p hp
theorem RepM.tells {c c' : List (Str × Int)} {F : Nat → Int} (h : RepM c F) (h' : RepM c' F) : Tells c c' :=
  ⟨(h.perm h').length_eq, fun p hp => by
    rw [kdpD_lookup, find_of_mem h'.nd p ((h'.mem p).mpr ((h.mem p).mp hp))]
    rfl⟩
theorem has_iff {c : List (Str × Int)} {k : Str} : (c.any fun p => decide (p.1 = k)) = true ↔ ∃ v, (k, v) ∈ c := by
  rw [List.any_eq_true]
  constructor
  · rintro ⟨⟨k', v⟩, hm, hk⟩
    have : k' = k := of_decide_eq_true hk
    exact ⟨v, this ▸ hm⟩
  · rintro ⟨v, hm⟩
    exact ⟨_, hm, by simp⟩
theorem RepM.has {c : List (Str × Int)} {F : Nat → Int} (h : RepM c F) {j : Nat} (hj : j < 7) : (∃ v, (spot (j : Int), v) ∈ c) ↔ F j ≠ 0 := by
  constructor
  · rintro ⟨v, hm⟩
    obtain ⟨i, hi, hf, e⟩ := (h.mem _).mp hm
    have := spot_inj hj hi (congrArg Prod.fst e)
    rw [this]; exact hf
  · intro hf
    exact ⟨F j, (h.mem _).mpr ⟨j, hj, hf, rfl⟩⟩
theorem RepM.look {c : List (Str × Int)} {F : Nat → Int} (h : RepM c F) {j : Nat} (hj : j < 7) : kdpLook c (spot (j : Int)) 0 = F j := by
  unfold kdpLook
  by_cases hf : F j = 0
  · have hn : c.find? (fun p => decide (p.1 = spot (j : Int))) = none := by
      rw [List.find?_eq_none]
      intro p hp hk
      have hk' : p.1 = spot (j : Int) := of_decide_eq_true hk
      exact (h.has hj).mp ⟨p.2, by rw [← hk']; exact hp⟩ hf
    rw [hn, hf]; rfl
  · have hm := (h.mem (spot (j : Int), F j)).mpr ⟨j, hj, hf, rfl⟩
    rw [find_of_mem h.nd _ hm]; rfl
theorem RepM.put {c : List (Str × Int)} {F : Nat → Int} (h : RepM c F) {i : Nat} (hi : i < 7) {v : Int} (hv : v ≠ 0) : RepM (kdpPut c (spot (i : Int)) v) (fun j => if j = i then v else F j) := by
  unfold kdpPut
  by_cases hc : (c.any fun p => decide (p.1 = spot (i : Int))) = true
  · rw [if_pos hc]
    refine ⟨?_, fun p => ?_⟩
    · have e : (c.map fun p => if decide (p.1 = spot (i : Int)) then (p.1, v) else p).map (·.1) = c.map (·.1) := by
        rw [List.map_map]
        refine List.map_congr_left fun p _ => ?_
        show (if decide (p.1 = spot (i : Int)) = true then (p.1, v) else p).1 = p.1
        split <;> rfl
      rw [e]; exact h.nd
    · rw [List.mem_map]
      constructor
      · rintro ⟨q, hq, rfl⟩
        obtain ⟨j, hj, hf, rfl⟩ := (h.mem q).mp hq
        by_cases hji : j = i
        · subst hji
          exact ⟨j, hj, by rw [if_pos rfl]; exact hv, by simp⟩
        · have hne : spot (j : Int) ≠ spot (i : Int) := fun e => hji (spot_inj hj hi e)
          exact ⟨j, hj, by rw [if_neg hji]; exact hf, by simp [hne, hji]⟩
      · rintro ⟨j, hj, hf, rfl⟩
        by_cases hji : j = i
        · subst hji
          obtain ⟨v', hv'⟩ := has_iff.mp hc
          exact ⟨_, hv', by simp⟩
        · simp only [if_neg hji] at hf ⊢
          have hne : spot (j : Int) ≠ spot (i : Int) := fun e => hji (spot_inj hj hi e)
          exact ⟨_, (h.mem _).mpr ⟨j, hj, hf, rfl⟩, by simp [hne]⟩
  · rw [if_neg hc]
    have hnone : ¬ ∃ v, (spot (i : Int), v) ∈ c := fun hx => hc (has_iff.mpr hx)
    have hF : F i = 0 := by
      rcases Decidable.em (F i = 0) with h0 | h0
      · exact h0
      · exact absurd ((h.has hi).mpr h0) hnone
    refine ⟨?_, fun p => ?_⟩
    · rw [List.map_append, List.nodup_append]
      refine ⟨h.nd, by simp, fun a ha b hb => ?_⟩
      simp only [List.map_cons, List.map_nil, List.mem_singleton] at hb
      subst hb
      rintro rfl
      obtain ⟨q, hq, e⟩ := List.mem_map.mp ha
      exact hnone ⟨q.2, by rw [← e]; exact hq⟩
    · rw [List.mem_append, List.mem_singleton]
      constructor
      · rintro (hp | rfl)
        · obtain ⟨j, hj, hf, rfl⟩ := (h.mem p).mp hp
          have hji : j ≠ i := fun e => hf (e ▸ hF)
          exact ⟨j, hj, by rw [if_neg hji]; exact hf, by rw [if_neg hji]⟩
        · exact ⟨i, hi, by rw [if_pos rfl]; exact hv, by rw [if_pos rfl]⟩
      · rintro ⟨j, hj, hf, rfl⟩
        by_cases hji : j = i
        · subst hji; right; rw [if_pos rfl]
        · left; rw [if_neg hji] at hf ⊢; exact (h.mem _).mpr ⟨j, hj, hf, rfl⟩
noncomputable def sumAt (l : List (Str × Int)) (k : Str) : Int := match l with
  | [] => 0
  | p :: r => (if p.1 = k then p.2 else 0) + sumAt r k
theorem sumAt_none : ∀ {l : List (Str × Int)} {k : Str}, (∀ v, (k, v) ∉ l) → sumAt l k = 0
  | [], _, _ => rfl
  | p :: r, k, h => by
    have h1 : p.1 ≠ k := fun e => h p.2 (by rw [← e]; exact List.mem_cons_self)
    show (if p.1 = k then p.2 else 0) + sumAt r k = 0
    rw [if_neg h1, sumAt_none fun v hv => h v (List.mem_cons_of_mem _ hv)]
    rfl
theorem sumAt_mem : ∀ {l : List (Str × Int)} {k : Str} {v : Int}, (l.map (·.1)).Nodup → (k, v) ∈ l → sumAt l k = v
  | [], _, _, _, h => (nomatch h)
  | p :: r, k, v, hn, h => by
    rw [List.map_cons, List.nodup_cons] at hn
    show (if p.1 = k then p.2 else 0) + sumAt r k = v
    rcases List.mem_cons.mp h with e | h
    · subst e
      rw [if_pos rfl, sumAt_none fun u hu => hn.1 (List.mem_map_of_mem (f := (·.1)) hu)]
      omega
    · have h1 : p.1 ≠ k := fun e => hn.1 (e ▸ List.mem_map_of_mem (f := (·.1)) h)
      rw [if_neg h1, sumAt_mem hn.2 h]
      omega
theorem RepM.sumAt {c : List (Str × Int)} {F : Nat → Int} (h : RepM c F) {j : Nat} (hj : j < 7) : sumAt c (spot (j : Int)) = F j := by
  by_cases hf : F j = 0
  · rw [hf]
    exact sumAt_none fun v hv => (h.has hj).mp ⟨v, hv⟩ hf
  · exact sumAt_mem h.nd ((h.mem _).mpr ⟨j, hj, hf, rfl⟩)
theorem RepM.adds : ∀ (l : List (Str × Int)) {c : List (Str × Int)} {F : Nat → Int}, RepM c F → (∀ j, j < 7 → 0 ≤ F j) → (∀ p ∈ l, ∃ i : Nat, i < 7 ∧ p.1 = spot (i : Int) ∧ 0 < p.2) → RepM (l.foldl addP c) (fun j => F j + Mine.sumAt l (spot (j : Int)))
  | [], c, F, h, _, _ => h.congr fun j _ => (Int.add_zero _).symm
  | p :: r, c, F, h, h0, hl => by
    obtain ⟨i, hi, hp1, hp2⟩ := hl p List.mem_cons_self
    have hFi := h0 i hi
    have h1 : RepM (addP c p) (fun j => if j = i then F i + p.2 else F j) := by
      unfold addP
      rw [hp1, h.look hi]
      exact h.put hi (by omega)
    refine (RepM.adds r h1 (fun j hj => ?_) fun q hq => hl q (List.mem_cons_of_mem _ hq)).congr fun j hj => ?_
    · show 0 ≤ (if j = i then F i + p.2 else F j)
      split
      · omega
      · exact h0 j hj
    · show (if j = i then F i + p.2 else F j) + Mine.sumAt r (spot (j : Int)) = F j + ((if p.1 = spot (j : Int) then p.2 else 0) + Mine.sumAt r (spot (j : Int)))
      by_cases hji : j = i
      · subst hji
        rw [if_pos rfl, if_pos hp1]; omega
      · have hne : p.1 ≠ spot (j : Int) := fun e => hji (spot_inj hj hi (e.symm.trans hp1))
        rw [if_neg hji, if_neg hne]; omega
theorem puts_new : ∀ (l c : List (Str × Int)), ((c ++ l).map (·.1)).Nodup → l.foldl putP c = c ++ l
  | [], c, _ => (List.append_nil c).symm
  | p :: r, c, h => by
    have h1 : putP c p = c ++ [p] := by
      unfold putP kdpPut
      rw [if_neg]
      intro hc
      obtain ⟨v, hv⟩ := has_iff.mp hc
      rw [List.map_append, List.nodup_append] at h
      exact h.2.2 p.1 (List.mem_map_of_mem (f := (·.1)) hv) p.1 (by simp) rfl
    rw [List.foldl_cons, h1, puts_new r (c ++ [p]) (by rw [List.append_assoc]; exact h), List.append_assoc]
    rfl
theorem RepM.add {a b : List (Str × Int)} {F G : Nat → Int} (ha : RepM a F) (hb : RepM b G) (hF : ∀ j, j < 7 → 0 ≤ F j) (hG : ∀ j, j < 7 → 0 ≤ G j) : RepM (addC a b) (fun j => F j + G j) := by
  unfold addC
  rw [puts_new a [] (by simpa using ha.nd), List.nil_append]
  refine (RepM.adds b ha hF fun p hp => ?_).congr fun j hj => by rw [hb.sumAt hj]
  obtain ⟨i, hi, hf, rfl⟩ := (hb.mem p).mp hp
  exact ⟨i, hi, rfl, by have := hG i hi; show 0 < G i; omega⟩
theorem RepM.nil : RepM [] (fun _ => 0) := ⟨List.nodup_nil, fun p => ⟨fun h => (nomatch h), fun ⟨_, _, h, _⟩ => absurd rfl h⟩⟩
theorem accS_step {F G : Nat → Int} {i : Nat} {v : Int} : ∀ n, (∀ j : Nat, j < n → F j = (if j = i then v else 0) + G j) → accS F n = (if i < n then v else 0) + accS G n
  | 0, _ => by rw [if_neg (Nat.not_lt_zero i)]; rfl
  | n + 1, e => by
    show F n + accS F n = _ + (G n + accS G n)
    rw [e n (Nat.lt_succ_self n), accS_step n fun j hj => e j (Nat.lt_succ_of_lt hj)]
    by_cases h : n = i
    · subst h
      rw [if_pos rfl, if_neg (Nat.lt_irrefl n), if_pos (Nat.lt_succ_self n), Int.zero_add, Int.add_assoc]
    · have e1 : (if i < n + 1 then v else 0) = (if i < n then v else 0) := by
        by_cases h1 : i < n
        · rw [if_pos h1, if_pos (Nat.lt_succ_of_lt h1)]
        · rw [if_neg h1, if_neg fun h2 => (Nat.lt_or_eq_of_le (Nat.le_of_lt_succ h2)).elim h1 (Ne.symm h)]
      rw [if_neg h, e1, Int.zero_add, Int.add_left_comm]
theorem step7 (F G : Nat → Int) {i : Nat} {v : Int} (hi : i < 7) (e : ∀ j : Nat, j < 7 → F j = (if j = i then v else 0) + G j) : ((List.range 7).map F).sum = v + ((List.range 7).map G).sum := by
  rw [← accS_sum, ← accS_sum, accS_step 7 e, if_pos hi]
theorem RepM.total {c : List (Str × Int)} {F : Nat → Int} (h : RepM c F) : (c.map (·.2)).sum = ((List.range 7).map F).sum := by
  have key : ∀ (l : List (Str × Int)), (∀ p ∈ l, ∃ i : Nat, i < 7 ∧ p.1 = spot (i : Int)) → (l.map (·.2)).sum = ((List.range 7).map fun (j : Nat) => Mine.sumAt l (spot (j : Int))).sum := by
    intro l
    induction l with
    | nil => intro _; rfl
    | cons p r ih =>
      intro hl
      obtain ⟨i, hi, hp⟩ := hl p List.mem_cons_self
      rw [List.map_cons, List.sum_cons, ih fun q hq => hl q (List.mem_cons_of_mem _ hq)]
      have e : ∀ j : Nat, j < 7 → Mine.sumAt (p :: r) (spot (j : Int)) = (if j = i then p.2 else 0) + Mine.sumAt r (spot (j : Int)) := fun j hj => by
        show (if p.1 = spot (j : Int) then p.2 else 0) + Mine.sumAt r (spot (j : Int)) = _
        by_cases hji : j = i
        · subst hji; rw [if_pos hp, if_pos rfl]
        · have hne : p.1 ≠ spot (j : Int) := fun e => hji (spot_inj hj hi (e.symm.trans hp))
          rw [if_neg hne, if_neg hji]
      exact (step7 _ _ hi e).symm
  rw [key c fun p hp => by obtain ⟨i, hi, _, rfl⟩ := (h.mem p).mp hp; exact ⟨i, hi, rfl⟩]
  exact congrArg List.sum (List.map_congr_left fun j hj => h.sumAt (List.mem_range.mp hj))
theorem wf_nonneg (hs : List Int) (j : Nat) : 0 ≤ wf hs j := by unfold wf; omega
theorem calls_rep (hs : List Int) {i : Nat} (hi : i < 7) : RepM (callsC hs i) (fun j => if j = i then wf hs i else 0) := by
  unfold callsC
  by_cases h : wf hs i = 0
  · rw [if_pos h]
    exact RepM.nil.congr fun j _ => by rw [h]; simp
  · rw [if_neg h]
    exact (RepM.nil.put hi h).congr fun j _ => rfl
theorem book_rep (hs : List Int) : ∀ n, n ≤ 7 → RepM (bookC hs n) (fun j => if j < n then wf hs j else 0)
  | 0, _ => RepM.nil.congr fun j _ => by simp
  | n + 1, h => by
    have h1 := book_rep hs n (by omega)
    have h2 := calls_rep hs (show n < 7 by omega)
    refine (h1.add h2 (fun j _ => ?_) (fun j _ => ?_)).congr fun j _ => ?_
    · show 0 ≤ (if j < n then wf hs j else 0)
      have := wf_nonneg hs j
      split <;> omega
    · show 0 ≤ (if j = n then wf hs n else 0)
      have := wf_nonneg hs n
      split <;> omega
    · by_cases h3 : j < n
      · rw [if_pos h3, if_neg (by omega), if_pos (by omega)]; omega
      · by_cases h4 : j = n
        · subst h4; rw [if_neg h3, if_pos rfl, if_pos (by omega)]; omega
        · rw [if_neg h3, if_neg h4, if_neg (by omega)]; omega
theorem kdpOf_puts (f : Int → Str) (d : Int → Int) (ks : List Int) : kdpOf f d ks = (ks.map fun k => (f k, d k)).foldl putP [] := by
  unfold kdpOf
  rw [List.foldl_map]
  rfl
theorem range_ks : rangeKs 0 7 = (List.range 7).map fun (j : Nat) => (j : Int) := rfl
theorem spots_nodup {q : Nat → Bool} : (((List.range 7).filter q).map fun (j : Nat) => spot (j : Int)).Nodup := by
  have : ∀ l : List Nat, (∀ j ∈ l, j < 7) → l.Nodup → (l.map fun (j : Nat) => spot (j : Int)).Nodup := by
    intro l
    induction l with
    | nil => intro _ _; exact List.nodup_nil
    | cons a r ih =>
      intro hl hn
      rw [List.nodup_cons] at hn
      rw [List.map_cons, List.nodup_cons]
      refine ⟨fun hm => ?_, ih (fun j hj => hl j (List.mem_cons_of_mem _ hj)) hn.2⟩
      obtain ⟨j, hj, e⟩ := List.mem_map.mp hm
      exact hn.1 (spot_inj (hl j (List.mem_cons_of_mem _ hj)) (hl a List.mem_cons_self) e ▸ hj)
  exact this _ (fun j hj => List.mem_range.mp (List.mem_filter.mp hj).1) (List.nodup_range.filter q)
theorem rep_filter (q : Nat → Bool) (F : Nat → Int) (hq : ∀ j, j < 7 → (q j = true ↔ F j ≠ 0)) : RepM (((List.range 7).filter q).map fun (j : Nat) => (spot (j : Int), F j)) F := by
  refine ⟨?_, fun p => ?_⟩
  · rw [List.map_map]
    exact spots_nodup
  · rw [List.mem_map]
    constructor
    · rintro ⟨j, hj, rfl⟩
      obtain ⟨h1, h2⟩ := List.mem_filter.mp hj
      exact ⟨j, List.mem_range.mp h1, (hq j (List.mem_range.mp h1)).mp h2, rfl⟩
    · rintro ⟨j, hj, hf, rfl⟩
      exact ⟨j, List.mem_filter.mpr ⟨List.mem_range.mpr hj, (hq j hj).mpr hf⟩, rfl⟩
theorem held_rep (hs : List Int) : RepM (heldC hs) (wf hs) := by
  have e : heldC hs = ((List.range 7).filter fun j => decide (wf hs j ≠ 0)).map fun (j : Nat) => (spot (j : Int), wf hs j) := by
    unfold heldC
    rw [kdpOf_puts, range_ks, List.filter_map, List.map_map]
    have e1 : ((List.range 7).filter ((fun k : Int => decide (wf hs k.toNat ≠ 0)) ∘ fun (j : Nat) => (j : Int))) = (List.range 7).filter fun j => decide (wf hs j ≠ 0) := List.filter_congr fun j _ => rfl
    rw [e1]
    have e2 : (((List.range 7).filter fun j => decide (wf hs j ≠ 0)).map ((fun k : Int => (spot k, wf hs k.toNat)) ∘ fun (j : Nat) => (j : Int))) = ((List.range 7).filter fun j => decide (wf hs j ≠ 0)).map fun (j : Nat) => (spot (j : Int), wf hs j) := List.map_congr_left fun j _ => rfl
    rw [e2, puts_new _ [] (by rw [List.nil_append, List.map_map]; exact spots_nodup), List.nil_append]
  rw [e]
  exact rep_filter _ _ fun j _ => by simp
theorem book_tells {hs : List Int} (_ : hs.length = 7) (_ : ∀ x ∈ hs, 0 ≤ x ∧ x < 8) : Tells (bookC hs 7) (heldC hs) :=
  ((book_rep hs 7 (Nat.le_refl _)).congr fun j hj => by rw [if_pos hj]).tells (held_rep hs)
/-- a spot that is wet at a level -/
def wetAt (bs : List Bool) (j : Nat) : Bool := !(bs.getD j true) && (bs.take j).any id && (bs.drop (j + 1)).any id
theorem wet_ff : ∀ c d e f g : Bool, noX [false, false, c, d, e, f, g] = false → wetC [false, false, c, d, e, f, g] = ((List.range 7).filter (wetAt [false, false, c, d, e, f, g])).map fun (j : Nat) => (spot (j : Int), (1 : Int)) := by decide +kernel
theorem wet_ft : ∀ c d e f g : Bool, noX [false, true, c, d, e, f, g] = false → wetC [false, true, c, d, e, f, g] = ((List.range 7).filter (wetAt [false, true, c, d, e, f, g])).map fun (j : Nat) => (spot (j : Int), (1 : Int)) := by decide +kernel
theorem wet_tf : ∀ c d e f g : Bool, noX [true, false, c, d, e, f, g] = false → wetC [true, false, c, d, e, f, g] = ((List.range 7).filter (wetAt [true, false, c, d, e, f, g])).map fun (j : Nat) => (spot (j : Int), (1 : Int)) := by decide +kernel
theorem wet_tt : ∀ c d e f g : Bool, noX [true, true, c, d, e, f, g] = false → wetC [true, true, c, d, e, f, g] = ((List.range 7).filter (wetAt [true, true, c, d, e, f, g])).map fun (j : Nat) => (spot (j : Int), (1 : Int)) := by decide +kernel
theorem wet7 : ∀ a b c d e f g : Bool, noX [a, b, c, d, e, f, g] = false → wetC [a, b, c, d, e, f, g] = ((List.range 7).filter (wetAt [a, b, c, d, e, f, g])).map fun (j : Nat) => (spot (j : Int), (1 : Int)) := by
  intro a b
  cases a <;> cases b
  · exact wet_ff
  · exact wet_ft
  · exact wet_tf
  · exact wet_tt
theorem dry7 : ∀ j : _root_.Fin 7, wetAt blank7 j.1 = false := by decide +kernel
theorem wet_rep {bs : List Bool} (h : bs.length = 7) (hn : noX bs = false) : RepM (wetC bs) (fun j => if wetAt bs j then 1 else 0) := by
  have e : wetC bs = ((List.range 7).filter (wetAt bs)).map fun (j : Nat) => (spot (j : Int), if wetAt bs j then (1 : Int) else 0) := by
    have e1 : ((List.range 7).filter (wetAt bs)).map (fun (j : Nat) => (spot (j : Int), if wetAt bs j then (1 : Int) else 0)) = ((List.range 7).filter (wetAt bs)).map fun (j : Nat) => (spot (j : Int), (1 : Int)) :=
      List.map_congr_left fun j hj => by rw [if_pos (List.mem_filter.mp hj).2]
    rw [e1]
    obtain ⟨a, b, c, d, e, f, g, rfl⟩ := seven h
    exact wet7 a b c d e f g hn
  rw [e]
  exact rep_filter _ _ fun j _ => by cases wetAt bs j <;> simp
noncomputable def wetN (hs : List Int) : Nat → Nat → Int
  | 0, _ => 0
  | i + 1, j => wetN hs i j + (if wetAt (lvBs hs i) j then 1 else 0)
theorem wetN_nonneg (hs : List Int) (j : Nat) : ∀ i, 0 ≤ wetN hs i j
  | 0 => Int.le_refl _
  | i + 1 => by
    have := wetN_nonneg hs j i
    show 0 ≤ wetN hs i j + (if wetAt (lvBs hs i) j then 1 else 0)
    split <;> omega
theorem lev_rep {hs : List Int} (h7 : hs.length = 7) : ∀ i, RepM (levC hs i) (wetN hs i)
  | 0 => RepM.nil
  | i + 1 => by
    have ih := lev_rep h7 i
    have hl : (lvBs hs i).length = 7 := by unfold lvBs; rw [List.length_map, h7]
    unfold levC
    cases hx : noX (lvBs hs i) with
    | true =>
      rw [if_pos rfl]
      refine ih.congr fun j hj => ?_
      show _ = wetN hs i j + (if wetAt (lvBs hs i) j then 1 else 0)
      rw [blank_of hl hx, if_neg (by rw [dry7 ⟨j, hj⟩]; decide)]
      omega
    | false =>
      rw [if_neg (by decide)]
      exact (ih.add (wet_rep hl hx) (fun j _ => wetN_nonneg hs j i) (fun j _ => by show (0 : Int) ≤ (if wetAt (lvBs hs i) j then 1 else 0); split <;> omega)).congr fun j _ => rfl
theorem wetAt_lv {hs : List Int} (h7 : hs.length = 7) {j : Nat} (hj : j < 7) (i : Nat) : wetAt (lvBs hs i) j = decide (hs.getD j 0 < 1 + (i : Int) ∧ 1 + (i : Int) ≤ min (mxl (hs.take j)) (mxl (hs.drop (j + 1)))) := by
  unfold wetAt lvBs
  have e1 : (hs.map fun a => decide (1 + (i : Int) ≤ a)).getD j true = decide (1 + (i : Int) ≤ hs.getD j 0) := by
    rw [List.getD_eq_getElem?_getD, List.getElem?_map, List.getElem?_eq_getElem (by omega), List.getD_eq_getElem?_getD, List.getElem?_eq_getElem (by omega)]
    rfl
  have e2 : ((hs.map fun a => decide (1 + (i : Int) ≤ a)).take j).any id = decide (1 + (i : Int) ≤ mxl (hs.take j)) := by
    rw [← List.map_take, List.any_map]
    exact any_mxl (by omega) _
  have e3 : ((hs.map fun a => decide (1 + (i : Int) ≤ a)).drop (j + 1)).any id = decide (1 + (i : Int) ≤ mxl (hs.drop (j + 1))) := by
    rw [← List.map_drop, List.any_map]
    exact any_mxl (by omega) _
  rw [e1, e2, e3, ← decide_not, ← Bool.decide_and, ← Bool.decide_and]
  exact decide_eq_decide.mpr (by omega)
theorem wetN_eq {hs : List Int} (h7 : hs.length = 7) {j : Nat} (hj : j < 7) (h0 : 0 ≤ hs.getD j 0) : ∀ i : Nat, wetN hs i j = max 0 (min (i : Int) (min (mxl (hs.take j)) (mxl (hs.drop (j + 1)))) - hs.getD j 0)
  | 0 => by
    show (0 : Int) = _
    have h1 : min (0 : Int) (min (mxl (hs.take j)) (mxl (hs.drop (j + 1)))) = 0 := Int.min_eq_left (Int.le_min.mpr ⟨mxl_nonneg _, mxl_nonneg _⟩)
    show (0 : Int) = max 0 (min (0 : Int) _ - _)
    rw [h1, Int.max_eq_left (Int.sub_nonpos_of_le h0)]
  | i + 1 => by
    show wetN hs i j + (if wetAt (lvBs hs i) j then 1 else 0) = _
    rw [wetN_eq h7 hj h0 i, wetAt_lv h7 hj i]
    by_cases hc : hs.getD j 0 < 1 + (i : Int) ∧ 1 + (i : Int) ≤ min (mxl (hs.take j)) (mxl (hs.drop (j + 1)))
    · rw [if_pos (decide_eq_true hc)]
      exact clamp_up hc.1 hc.2
    · rw [if_neg (by simpa using hc)]
      exact clamp_stay hc
theorem wetN_wf {hs : List Int} (h7 : hs.length = 7) (hb : ∀ x ∈ hs, 0 ≤ x ∧ x < 8) {j : Nat} (hj : j < 7) : wetN hs 8 j = wf hs j := by
  have h0 : ∀ x ∈ hs, 0 ≤ x := fun x hx => (hb x hx).1
  have hk := hb _ (getD_mem h7 hj)
  have e1 : mxl (hs.take j) < 8 := mxl_lt (by decide) fun x hx => (hb x (List.mem_of_mem_take hx)).2
  rw [wetN_eq h7 hj hk.1, wf_eq h7 hb hj, lf_split h7 h0 hj, rf_split h7 h0 hj]
  exact wet8 e1
theorem lev_tells {hs : List Int} (h7 : hs.length = 7) (hb : ∀ x ∈ hs, 0 ≤ x ∧ x < 8) : Tells (levC hs 8) (heldC hs) :=
  ((lev_rep h7 8).congr fun _ hj => wetN_wf h7 hb hj).tells (held_rep hs)
theorem accS_lin {a b c w : Nat → Int} {m : Int} : ∀ n : Nat, (∀ j, j < n → w j = a j + b j - m - c j) → accS w n = accS a n + accS b n - (n : Int) * m - accS c n
  | 0, _ => by simp [accS]
  | n + 1, e => by
    show w n + accS w n = (a n + accS a n) + (b n + accS b n) - ((n + 1 : Nat) : Int) * m - (c n + accS c n)
    rw [e n (Nat.lt_succ_self n), accS_lin n fun j hj => e j (Nat.lt_succ_of_lt hj), Int.natCast_add, Int.add_mul]
    generalize (n : Int) * m = q
    generalize accS a n = x
    generalize accS b n = y
    generalize accS c n = z
    show _ = _ - (q + 1 * m) - _
    rw [Int.one_mul]
    clear e
    lia
theorem lev_sum {hs : List Int} (h7 : hs.length = 7) (hb : ∀ x ∈ hs, 0 ≤ x ∧ x < 8) : ((levC hs 8).map (·.2)).sum = ((List.range 7).map (lf hs)).sum + ((List.range 7).map (rf hs)).sum - 7 * mxl hs - hs.sum := by
  have h0 : ∀ x ∈ hs, 0 ≤ x := fun x hx => (hb x hx).1
  rw [((lev_rep h7 8).congr fun _ hj => wetN_wf h7 hb hj).total, ← acc_heights h7, ← accS_sum, ← accS_sum, ← accS_sum]
  have hw : ∀ j, j < 7 → wf hs j = lf hs j + rf hs j - mxl hs - hs.getD j 0 := fun j hj => by
    have := wf_eq h7 hb hj
    have := high_eq j h7 h0 hj
    omega
  exact accS_lin 7 hw
end Mine
end
section
-- LawZ
open PySem PySem.W PyProof.Rows PySem.Calls PySem.Spec PyProof.V
set_option Elab.async false
set_option maxRecDepth 100000
set_option maxHeartbeats 8000000
namespace Mine
theorem anew_LawZ : True ∧ True := by
  k_with_none
  first | (walk1; done) | exact ⟨trivial, trivial⟩
theorem fill_LawZ : (PySem.Challenge.rw_zn0017_01, hd.heap_39) = (PySem.Challenge.rw_zn0017_01, hd.heap_39) := by
  k_fill
  rfl
local macro_rules | `(tactic| walk_at "call ref") => `(tactic| k_extra "call")
local macro_rules | `(tactic| walk_at "call type:bytes") => `(tactic| k_extra "bytes")
local macro_rules | `(tactic| walk_at "eval ListComp") => `(tactic| k_extra "flat")
local macro_rules | `(tactic| walk_at "subscriptTail Name Slice ref ref") => `(tactic| k_extra "slice")
local macro_rules | `(tactic| walk_at "exec For Name Call cons nil") => `(tactic| (k_here; (with_unfolding_all refine' For_any ?_); k_whole))
local macro_rules | `(tactic| walk_at "pyIter ref") => `(tactic| ((with_reducible show wpAny _ _ (pyIter (Value.ref _)) (fun it s₂ => LoopG _ _ _ _ _ _ _ _ it s₂) _ _); refine Stop.out ?_))
local macro_rules | `(tactic| walk_at "subscriptTail Name Name ref int") => `(tactic| k_extra "dueitem")
local macro_rules | `(tactic| walk_at "subscriptTail") => `(tactic| k_extra "bslice")
local macro_rules | `(tactic| walk_at "compareOp NotEq ref ref") => `(tactic| k_extra "cmp")
local macro_rules | `(tactic| walk_at "subscriptTail Name Constant ref int") => `(tactic| k_extra "titem")
local macro_rules | `(tactic| walk_at "eval Dict") => `(tactic| k_extra "dict")
local macro_rules | `(tactic| walk_at "exec Assign cons DictComp") => `(tactic| k_extra "dictcomp")
local macro_rules | `(tactic| k_all) => `(tactic| assumption)
abbrev refs7 (a : Nat → Addr) : List Value := [Value.ref (a 0), Value.ref (a 1), Value.ref (a 2), Value.ref (a 3), Value.ref (a 4), Value.ref (a 5), Value.ref (a 6)]
theorem law_spec (prog : Program) (w : World) (g : Heap) (l : Addr) (vs : List Value) (ks : List Int) (hl : g.IsList l vs.toArray) (hi : IntsAre vs ks) (hb : ks.length ≤ 63)
    (mean : ExcName → Option Value) (mg mb : Str → Option Value) (dp un : Nat) (gd : Option (List Code)) (A₀ : Around) (s : Shared) (Q E : Value → Shared → Prop)
    (hs' : s.heap = g) (HB : Bs w mean mg mb g) (B : Below A₀ g [] g) (hdp : dp + 30 < recursionLimit) (hun : un + 2000 < cLine)
    (hret : ∀ h' tk', g.StaysIn h' → Q (.bool true) { s with heap := h', toks := tk' }) : wpC (model prog w) (AT none dp un gd []) (call (.ref 144) [.ref l]) Q E s := by
  replace hret : Stop _ := hret
  have X := Bs.X HB
  have T := Bs.T HB
  have V := Bs.V HB
  have HB0 := HB
  clear HB
  refine wpC_call ?_
  refine' code_clean hs' X T ?k6 ?k7 ?k8 ?k9 ?kB ?kD ?_ ?c2 ?c3 ?c4
  (case k6 => k_is)
  (case k7 => k_is)
  (case k8 => ktr_room)
  (case k9 => exact BindsTo.of_eq rfl)
  (case kB => exact rfl)
  (case kD => decide +kernel)
  (case c2 => exact rfl)
  (case c3 => exact rfl)
  (case c4 => exact rfl)
  intro L h0' tk0' cells' F0' N0' Y'
  k_cells Y'
  (try dsimp only)
  (try k_fold)
  refine wpC_cons_any ?_
  k_with "call" => (k_here; refine Stop.out ?_)
  k_steps
  k_with_none
  unfold Stop
  rename Fr _ _ _ _ => F1
  rename News _ _ _ _ => N1
  have hl1 := id hl
  obtain ⟨ol, hol, hcl, nl, hdl⟩ := hl1
  k_dflt (refine' PC.use (heights_spec prog w _ l vs ks ⟨ol, F1.keep _ _ hol, hcl, nl, hdl⟩ hi hb) rfl rfl rfl rfl ?k1 F1 N1 ?k4 ?k5 ?k6 ?k7 ?k8 ?_; (case k1 => k_asm); (case k4 => k_asm); (case k5 => k_asm); (case k6 => k_asm); (case k7 => ktr_room); (case k8 => ktr_units))
  clear F1 N1
  intro r' tl' h' tk' F' N' l1 hp'
  obtain ⟨D, hvs, hts, nH, hr', ht', hI, h7, hb8⟩ := hp'
  subst hr' ht'
  simp only [List.cons_append, List.nil_append] at N'
  have l1' : @Ne Nat D _ := l1 _ (.head _) _ (.head _)
  clear l1
  dsimp only at l1'
  k_with "call" => (k_here; refine Stop.out ?_)
  k_steps
  refine wpC_cons_any ?_
  k_steps
  k_with_none
  unfold Stop
  rename Fr _ _ _ _ => F1
  rename News _ _ _ _ => N1
  k_dflt (refine' PC.use (rule_spec prog w _ D hvs hts (News.isList N1 (.head _)) hI h7 hb8) rfl rfl rfl rfl ?k1 F1 N1 ?k4 ?k5 ?k6 ?k7 ?k8 ?_; (case k1 => k_asm); (case k4 => k_asm); (case k5 => k_asm); (case k6 => k_asm); (case k7 => ktr_room); (case k8 => ktr_units))
  intro r' tl' h' tk' F' N' l1 hp'
  obtain ⟨R, rs, nR, tups, hr', ht', hdue⟩ := hp'
  subst hr' ht'
  obtain ⟨a, ta, tb, tc, td, hrs, hm⟩ := due7 hdue (fun x hx => (hb8 x hx).1)
  have hrs' : rs = refs7 a := hrs
  subst hrs'
  clear hrs
  clear hdue F1 N1
  have N2 := News.sub (tl := (R, _) :: (D, _) :: (_, _) :: tups) N' (fun p hp => by
    rcases List.mem_cons.mp hp with rfl | hp
    · exact .head _
    rcases List.mem_cons.mp hp with rfl | hp
    · exact List.mem_append_right _ (.head _)
    rcases List.mem_cons.mp hp with rfl | hp
    · exact List.mem_append_right _ (.tail _ (.head _))
    exact List.mem_append_left _ (.tail _ hp))
  have offc : ∀ p ∈ tups, p.1 ≠ @HAdd.hAdd Nat Nat Nat instHAdd L 1 := fun p hp => l1 p (.tail _ hp) _ (.tail _ (.head _))
  have nRc := l1 _ (.head _) _ (.tail _ (.head _))
  have dR := l1 _ (.head _) _ (.head _)
  dsimp only at nRc dR
  clear l1 N'
  k_steps
  refine wpC_cons_any ?_
  k_steps
  rename _ ∈ hts => hMin
  rename ∀ a ∈ hts, a ≤ _ => hMle
  have hMx := mxl_of ⟨hMin, hMle⟩ (fun x hx => (hb8 x hx).1)
  have hin : KBa.In hts := fun x hx => by have := hb8 x hx; omega
  refine wpC_execs_cons (wpC_Assign_Name (wpC_Call_Name rfl ?_))
  k_steps
  refine callWithC1 (keeps_K (K := hd.heap_39 w.params) (by k_is)) (.of_any (bm_if_false rfl ?_))
  k_with "bytes" => (refine Stop.out ?_)
  k_steps
  k_with_none
  unfold Stop
  rename Fr _ _ _ _ => F1
  rename News _ _ _ _ => N1
  k_dflt (refine' KBa.make_K F1 N1 rfl (News.isList N1 (by k_mem)) hI hin (by omega) ?_)
  clear F1 N1
  intro h' t' k' F1 N1 _
  rename Frag.In _ _ => XX
  refine ⟨XX.keeps F1.keep, ?_⟩
  ((show wpC _ _ (call (Value.ref _) _) _ _ _); k_dflt (refine' PCC.use (pixels_spec prog w _ _ hts _ (KBa.ints_make hin) h7 hb8) rfl rfl rfl rfl ?k1 ?k2 ?k3 ?k4 ?k5 ?k6 ?k7 ?k8 ?_; (case k1 => k_asm); (case k2 => k_asm); (case k3 => k_asm); (case k4 => k_asm); (case k5 => k_asm); (case k6 => k_asm); (case k7 => ktr_room); (case k8 => ktr_units)))
  clear F1 N1
  intro r' tl' h1' tk1' F1 N1 l1 hp'
  obtain ⟨bP, tP, hr', hbP, ht'⟩ := hp'
  subst hr' ht'
  rw [List.nil_append] at N1
  clear l1
  k_steps
  refine wpC_execs_cons (wpC_Assign_Name (wpC_Call_Name rfl ?_))
  k_steps
  refine callWithC2 (keeps_K (K := hd.heap_39 w.params) (by k_is)) (.of_any (bm_if_false rfl ?_))
  k_steps
  refine .of_any (bm_if_false rfl ?_)
  k_steps
  ((show wpC _ _ (call (Value.ref _) _) _ _ _); k_dflt (refine' PCC.use (swap_spec prog w _ bP (pix hts) _ _ 21 (.inr rfl) hbP (pix_len hts)) rfl rfl rfl rfl ?k1 ?k2 ?k3 ?k4 ?k5 ?k6 ?k7 ?k8 ?_; (case k1 => k_asm); (case k2 => k_asm); (case k3 => k_asm); (case k4 => k_asm); (case k5 => k_asm); (case k6 => k_asm); (case k7 => ktr_room); (case k8 => ktr_units)))
  intro r' tl' h1' tk1' F1 N1 l1 hp'
  obtain ⟨bT, tT, hr', hbT, ht'⟩ := hp'
  subst hr' ht'
  rw [List.nil_append] at N1
  clear l1
  k_steps
  refine wpC_cons_any ?_
  k_with "flat" => (k_here; k_dflt (refine ListComp_flat (_F₀ := by k_asm) (by rfl) (by decide) (by rfl) (by decide) (by rfl) (by rfl) (by decide) ?_ (by intro _; rfl) (by intro _ _; rfl)))
  k_with "bytes" => (refine Stop.out ?_)
  k_steps
  rename Fr _ _ _ _ => F1
  rename News _ _ _ _ => N1
  refine (?_ : Stop _)
  k_with_none
  refine ⟨R, _, _, fun i => [Value.int (lf hts i) (ta i), Value.int (hts.getD i 0) (tb i), Value.int (rf hts i) (tc i)], _, rfl, rfl, F1, N1, .head _, Nat.le_of_ble_eq_true rfl, fun i => Nat.le_of_ble_eq_true rfl, ?_, ?_⟩
  · intro C i s₃ m₂ E' hi hn hm2 up
    have hi7 : i < 7 := hi
    have hmi : m₂ (Str.ofString "four") = some (Value.ref (a i)) := hm2.trans (ref7 a hi7)
    have ht0 : IsTup s₃.heap (a i) [Value.int (lf hts i) (ta i), Value.int (hts.getD i 0) (tb i), Value.int (rf hts i) (tc i), Value.int (wf hts i) (td i)].toArray := by
      have hx := up _ _ (N1 (a i, tup4 hts ta tb tc td i) (.tail _ (.tail _ (.tail _ (hm i hi7))))).1
      exact ⟨_, hx, rfl, _, rfl⟩
    k_with "slice" => (k_dflt (refine' slice_tuple_raw (s := ⟨_, _, _, _, _⟩) (a := 3) (ys := [Value.int (lf hts i) (ta i), Value.int (hts.getD i 0) (tb i), Value.int (rf hts i) (tc i)]) ht0 (Nat.le_of_ble_eq_true rfl) rfl (Nat.le_of_ble_eq_true rfl) ?_ ?ws ?wt; (case ws => with_unfolding_all rfl); (case wt => kmk_pure)); intro T' h' hT' hk')
    k_steps
    · exact hT'
    · exact ⟨_, _, rfl, hk'⟩
  · intro D' h tk F2 N3 off
    clear F1 N1
    k_with "bytes" => (refine Stop.out ?_)
    k_steps
    k_with_none
    unfold Stop
    rename Fr _ _ _ _ => F1
    rename News _ _ _ _ => N1
    have h00 : ∀ x ∈ hts, 0 ≤ x := fun x hx => (hb8 x hx).1
    have hfi := flat_ints hts ta tb tc 7
    rw [← pix_eq h7 h00] at hfi
    have hin2 : KBa.In (pix hts) := fun x hx => by have := pix_in h7 hb8 x hx; omega
    k_dflt (refine' KBa.make_K F1 N1 rfl ⟨_, (N1 _ (.head _)).1, rfl, _, rfl⟩ hfi hin2 (by rw [pix_len]; omega) ?_)
    clear F1 N1
    intro h' t' k' F1 N1 _
    k_steps
    have hbe : bP = byteArr (pix hts) := bInts_inj (hbP.trans (KBa.ints_make hin2).symm)
    try (focus (exfalso; rename (_ != _) = true => hne; rw [hbe] at hne; simp at hne; done))
    refine wpC_execs_cons (wpC_If (isTrueC_Or2 ?_))
    k_steps
    refine isTrueC_Compare1 ?_
    k_steps
    refine wpC_Call_Name rfl ?_
    k_steps
    refine callWithC1 (keeps_K (K := hd.heap_39 w.params) (by k_is)) (.of_any (bm_if_false rfl ?_))
    k_with "bytes" => (refine Stop.out ?_)
    k_steps
    k_with_none
    unfold Stop
    rename Fr _ _ _ _ => F1
    rename News _ _ _ _ => N1
    rename IntsAre _ (List.reverse _) => hIr
    have hinr : KBa.In hts.reverse := fun x hx => hin x (List.mem_reverse.mp hx)
    k_dflt (refine' KBa.make_K F1 N1 rfl (News.isList N1 (.head _)) hIr hinr (by rw [List.length_reverse]; omega) ?_)
    clear F1 N1
    intro h' t' k' F1 N1 _
    rename Frag.In _ _ => XX
    refine ⟨XX.keeps F1.keep, ?_⟩
    ((show wpC _ _ (call (Value.ref _) _) _ _ _); k_dflt (refine' PCC.use (pixels_spec prog w _ _ hts.reverse _ (KBa.ints_make hinr) (by rw [List.length_reverse]; exact h7) (fun x hx => hb8 x (List.mem_reverse.mp hx))) rfl rfl rfl rfl ?k1 ?k2 ?k3 ?k4 ?k5 ?k6 ?k7 ?k8 ?_; (case k1 => k_asm); (case k2 => k_asm); (case k3 => k_asm); (case k4 => k_asm); (case k5 => k_asm); (case k6 => k_asm); (case k7 => ktr_room); (case k8 => ktr_units)))
    clear F1 N1
    intro r' tl' h1' tk1' F1 N1 l1 hp'
    obtain ⟨bR, tR, hr', hbR, ht'⟩ := hp'
    subst hr' ht'
    rw [List.nil_append] at N1
    clear l1
    have hbe2 : bT = bR := bInts_inj ((hbT.trans (pix_rev h7 h00)).trans hbR.symm)
    k_steps
    try (focus (exfalso; rename (bT.toList != _) = true => hne; rw [hbe2] at hne; simp at hne; done))
    clear hbR hbe2 hbT hfi hin2 hinr hIr
    replace N1 := News.sub (tl := (R, _) :: (D, _) :: (_, _) :: tups) N1 (fun p hp => .tail _ (.tail _ hp))
    refine .of_any ?_
    k_steps
    refine .of_any ?_
    k_steps
    k_with_none
    unfold Stop
    rename Fr _ _ _ _ => F0
    rename News _ _ _ _ => N0
    rename IsRange _ _ _ _ _ _ _ _ => R0
    rename Obj.IsDictOf (intKind prog w) _ _ => hi0
    clear hi0
    rename Obj.IsDictOf (PySem.strKind prog w) _ [] => hs0
    rename (_ == sysModules) = false => lo0
    refine iter_range_gen (n := 7) [Str.ofString "k", Str.ofString "left", Str.ofString "height", Str.ofString "right", Str.ofString "depth", Str.ofString "shown", Str.ofString "calls", Str.ofString "book"]
      (fun i u news => ∃ (Bk Dk : Addr) (oB oD oc : Obj), u (Str.ofString "book") = some (.ref Bk) ∧ news = (Bk, oB) :: (Dk, oD) :: (R, W.listOf (refs7 a).toArray nR) :: (D, W.listOf hvs.toArray nH) :: (@HAdd.hAdd Nat Nat Nat instHAdd L 1, oc) :: tups ∧ oc.data = .cell (some (.ref R))
        ∧ B5 oB (accS (fun j => hts.getD j 0) i) (accS (lf hts) i) (accS (rf hts) i) (accS (wf hts) i) Dk ∧ (Dk == sysModules) = false ∧ SD prog w oD (bookC hts i))
      rfl R0 (by decide) (by decide) F0 N0 ⟨_, _, _, _, _, rfl, rfl, by assumption, ⟨_, _, _, _, rfl⟩, lo0, ⟨[], hs0, .nil⟩⟩ ?_ ?_
    · clear F0 N0 R0 hs0 lo0
      rintro I i t u news₁ oI h tk hi7 ⟨Bk, Dk, oB, oD, oc', hu, rfl, dc, hB5, loD, sdD⟩ F2 N2 off
      have offB := off _ (.head _)
      have offDk := off _ (.tail _ (.head _))
      have offR := off _ (.tail _ (.tail _ (.head _)))
      have offc := off _ (.tail _ (.tail _ (.tail _ (.tail _ (.head _)))))
      dsimp only at offB offDk offR offc
      generalize hP : GPost _ _ _ _ _ _ _ _ _ = P
      replace hP : Stop (_ = _) := hP
      have hmi : (a i, tup4 hts ta tb tc td i) ∈ ((Bk, oB) :: (Dk, oD) :: (R, W.listOf (refs7 a).toArray nR) :: (D, W.listOf hvs.toArray nH) :: (@HAdd.hAdd Nat Nat Nat instHAdd L 1, oc') :: tups : List (Addr × Obj)) := .tail _ (.tail _ (.tail _ (.tail _ (.tail _ (hm i hi7)))))
      have offa := off _ hmi
      dsimp only at offa
      obtain ⟨p1, p2, p3, p4, rfl⟩ := hB5
      replace F2 : Fr g _ h _ := Mine.Fr.carry F2 (k := Str.ofString "book") (by rw [if_pos rfl]; exact hu)
      have N3 : News g L h ((a i, tup4 hts ta tb tc td i) :: (I, oI) :: (Bk, _) :: (Dk, oD) :: (R, W.listOf (refs7 a).toArray nR) :: (D, W.listOf hvs.toArray nH) :: (@HAdd.hAdd Nat Nat Nat instHAdd L 1, oc') :: tups) := fun p hp => by
        rcases List.mem_cons.mp hp with rfl | hp
        · exact N2 _ (.tail _ hmi)
        · exact N2 _ hp
      clear N2
      k_with "dueitem" => (k_here; refine Stop.out ?_)
      k_steps
      k_with_none
      unfold Stop
      rename Fr _ _ _ _ => F4
      rename News _ _ _ _ => N4
      refine list_at (v := Value.ref (a i)) (News.isList N4 (.tail _ (.tail _ (.tail _ (.tail _ (.head _)))))) (by omega) (by omega) (ref7l a hi7) ?_
      k_with "call" => (k_here; refine Stop.out ?_)
      k_with "bslice" => ((with_reducible show wpAny _ _ (subscriptTail _ (Expr.Slice _ _ none _) (Value.bytes _ _) (Value.ref _)) _ _ _); refine Stop.out ?_)
      k_steps
      unfold Stop
      rename Fr _ _ _ _ => F5
      rename News _ _ _ _ => N5
      refine KBc.slice_K (s := ⟨_, _, _, _, _⟩) F5 N5 hbP (by constructor) (by constructor) (by rw [pix_len]; omega) ?_
      clear F5 N5
      intro h' t' k' F5 N5 hcut
      have hcut3 := hcut.trans (cut3 h7 h00 hi7)
      clear hcut
      k_steps
      k_with_none
      unfold Stop
      have g0 := (hb8 _ (getD_mem h7 hi7)).1
      have g1 := lf_ge h7 hi7
      have g2 := rf_ge h7 hi7
      have g3 := lf_lt hb8 i
      have g4 := rf_lt hb8 i
      have gw := wf_eq h7 hb8 hi7
      have gh := high_eq i h7 h00 hi7
      k_dflt (refine' PC.use (shown_spec prog w _ _ _ (lf hts i) (hts.getD i 0) (rf hts i) hcut3 g0 g1 g2 g3 g4) rfl rfl rfl rfl ?k1 F5 N5 ?k4 ?k5 ?k6 ?k7 ?k8 ?_; (case k1 => k_asm); (case k4 => k_asm); (case k5 => k_asm); (case k6 => k_asm); (case k7 => ktr_room); (case k8 => ktr_units))
      clear F5 N5
      intro r' tl' h' tk' F5 N5 l5 hp'
      obtain ⟨S, oS, P, oP, hr', ht', ⟨fx, fy, hS5, cx, cy⟩, ys, rfl, hys⟩ := hp'
      subst hr' ht'
      obtain ⟨s1, s2, s3, s4, rfl⟩ := hS5
      rw [gh] at cx cy
      simp only [List.cons_append, List.nil_append] at N5
      rw [← gw] at N5
      k_with "cmp" => (k_here; refine Stop.out ?_)
      k_steps
      k_with_none
      unfold Stop
      rename News _ _ _ (_ :: _ :: _ :: _ :: _ :: _ :: _ :: _ :: _ :: _ :: _ :: tups) => N6
      refine ne_tup (xs := [Value.int _ _, Value.int _ _, Value.float fx s3, Value.float fy s4, Value.ref P]) (ys := [Value.int _ _, Value.int _ _, Value.int _ _, Value.int _ _, Value.ref _]) ⟨_, (N6 (S, _) (by k_mem)).1, rfl, _, rfl⟩ ⟨_, (N6 _ (.head _)).1, rfl, _, rfl⟩ ?hu
        (.cons (eqAt_int _ _ rfl) (.cons (eqAt_int _ _ rfl) (.cons (eqAt_fi _ _ ?hx) (.cons (eqAt_fi _ _ ?hy) (.cons (eqAt_list (vs := ys) (us := [Value.int (rf hts i) (tc i), Value.int (lf hts i) (ta i), Value.int (hts.getD i 0) (tb i)]) (ns := [rf hts i, lf hts i, hts.getD i 0]) (ms := [rf hts i, lf hts i, hts.getD i 0]) _ ⟨_, (N6 (P, LCg.lst ys) (by k_mem)).1, rfl, _, rfl⟩ hys ⟨_, (N6 _ (.tail _ (.head _))).1, rfl, _, rfl⟩ (.cons _ _ (.cons _ _ (.cons _ _ .nil))) ?hl5 rfl) .nil))))) ?_
      (case hu => first | ktr_units | (show un + 1 < cLine; omega) | (show un + 0 < cLine; omega))
      (case hx => rw [hMx]; exact cx)
      (case hy => rw [hMx]; exact cy)
      (case hl5 => first | ktr_units | (show un + 1 + 1 + 64 < cLine; omega) | (show un + 0 + 1 + 64 < cLine; omega))
      k_with "call" => (k_here; refine Stop.out ?_)
      k_with "titem" => (k_dflt (refine item_tupleT (j := 0) (x := Value.int (wf hts i) s1) ⟨_, News.at ?wN (p := (S, _)) ?wM, rfl, _, rfl⟩ (by decide) (by decide) rfl rfl ?_; (case wN => k_asm); (case wM => k_mem)))
      k_with "dict" => (k_here; k_dflt (refine' kdn_eval (knd := PySem.strKind prog w) ?F ?N ?b rfl rfl ?e ?n ?_; (case F => k_asm); (case N => k_asm); (case b => exact Top.nolimit (by k_asm)); (case e => exact List.cons_ne_nil _ _); (case n => exact Nat.le_of_ble_eq_true rfl)); intro d' h' o' F' N' l1 lo' hd'; (try k_lt l1))
      k_steps
      · unfold Stop
        rename Fr _ _ _ _ => F7
        rename News _ _ _ _ => N7
        k_dflt (refine' PC.use (spot_spec prog w _ (0 + (i : Int)) _ (by omega) (by omega)) rfl rfl rfl rfl ?k1 F7 N7 ?k4 ?k5 ?k6 ?k7 ?k8 ?_; (case k1 => k_asm); (case k4 => k_asm); (case k5 => k_asm); (case k6 => k_asm); (case k7 => ktr_room); (case k8 => ktr_units))
        clear F7 N7
        intro r' tl' h' tk' F7 N7 l7 hp'
        obtain ⟨tS, hr', ht'⟩ := hp'
        subst hr' ht'
        rw [List.nil_append] at N7
        clear l7
        k_steps
        unfold Stop
        rename Fr _ _ _ _ => F8
        rename News _ _ _ _ => N8
        rename (d' == sysModules) = false => lo8
        rename Obj.IsDictOf (PySem.strKind prog w) _ (strPairs _) => hd8
        rename FlatPairs PyData.str (strPairs _) _ => hf8
        rename wf hts i ≠ 0 => hw8
        have hcalls : callsC hts i = [(spot (0 + (i : Int)), wf hts i)] := by unfold callsC; rw [if_neg hw8, Int.zero_add]
        have dB : Dct prog w _ d' (callsC hts i) := ⟨lo8, _, (N8 _ (.tail _ (.head _))).1, _, hd8, by rw [hcalls]; exact hf8⟩
        have dA : Dct prog w _ Dk (bookC hts i) := ⟨loD, oD, (N8 (Dk, oD) (by k_mem)).1, sdD⟩
        have hl1 := bookC_len hts i
        have hl2 := callsC_len hts i
        k_dflt (refine' PC.use (stats_spec prog w _ Bk _ _ _ _ _ _ _ _ _ _ _ Dk _ _ _ (N8 (Bk, _) (by k_mem)).1 (N8 _ (.head _)).1 ⟨_, _, _, _, rfl⟩ ⟨_, _, _, _, rfl⟩ dA dB (by omega)) rfl rfl rfl rfl ?k1 F8 N8 ?k4 ?k5 ?k6 ?k7 ?k8 ?_; (case k1 => k_asm); (case k4 => k_asm); (case k5 => k_asm); (case k6 => k_asm); (case k7 => ktr_room); (case k8 => ktr_units))
        clear F8
        intro r' tl' h' tk' F9 N9 l9 hp'
        obtain ⟨T9, oT, R9, oR, hr', ht', hB9, loR, sdR⟩ := hp'
        subst hr' ht'
        have hTI : @Ne Nat T9 I := l9 (T9, oT) (.head _) (I, oI) (by k_mem)
        have hRI : @Ne Nat R9 I := l9 (R9, oR) (.tail _ (.head _)) (I, oI) (by k_mem)
        simp only [List.cons_append, List.nil_append] at N9
        clear N8 l9
        k_steps
        rename Fr _ _ _ _ => F10
        rename News _ _ _ _ => N10
        unfold Stop at hP
        subst hP
        refine GEnd.intro ((T9, oT) :: (R9, oR) :: (R, W.listOf (refs7 a).toArray nR) :: (D, W.listOf hvs.toArray nH) :: (@HAdd.hAdd Nat Nat Nat instHAdd L 1, oc') :: tups) F10 N10 (by k_mem) (fun p hp => ?_) (fun p hp => ?_) (fun y hy => by (repeat rw [if_neg (neS hy rfl)]); rw [if_neg (neT hy)])
          ⟨T9, R9, oT, oR, oc', if_pos rfl, rfl, dc, hB9, loR, sdR⟩
        · rcases List.mem_cons.mp hp with rfl | hp
          · exact .head _
          rcases List.mem_cons.mp hp with rfl | hp
          · exact .tail _ (.head _)
          exact .tail _ (.tail _ (.tail _ (.tail _ (.tail _ (.tail _ (.tail _ (.tail _ (.tail _ (.tail _ (.tail _ (.tail _ hp)))))))))))
        · rcases List.mem_cons.mp hp with rfl | hp
          · exact hTI
          rcases List.mem_cons.mp hp with rfl | hp
          · exact hRI
          exact off p (.tail _ (.tail _ hp))
      · unfold Stop
        rename Fr _ _ _ _ => F8
        rename News _ _ _ _ => N8
        rename wf hts i = 0 => hw8
        have hcalls : callsC hts i = [] := by unfold callsC; rw [if_pos hw8]
        rename Obj.IsDictOf (intKind prog w) _ [] => hi9
        clear hi9
        rename Obj.IsDictOf (PySem.strKind prog w) _ [] => hd8
        rename (_ == sysModules) = false => lo8
        have dB : Dct prog w _ _ (callsC hts i) := ⟨lo8, _, (N8 _ (.tail _ (.head _))).1, _, hd8, by rw [hcalls]; exact .nil⟩
        have dA : Dct prog w _ Dk (bookC hts i) := ⟨loD, oD, (N8 (Dk, oD) (by k_mem)).1, sdD⟩
        have hl1 := bookC_len hts i
        have hl2 := callsC_len hts i
        k_dflt (refine' PC.use (stats_spec prog w _ Bk _ _ _ _ _ _ _ _ _ _ _ Dk _ _ _ (N8 (Bk, _) (by k_mem)).1 (N8 _ (.head _)).1 ⟨_, _, _, _, rfl⟩ ⟨_, _, _, _, rfl⟩ dA dB (by omega)) rfl rfl rfl rfl ?k1 F8 N8 ?k4 ?k5 ?k6 ?k7 ?k8 ?_; (case k1 => k_asm); (case k4 => k_asm); (case k5 => k_asm); (case k6 => k_asm); (case k7 => ktr_room); (case k8 => ktr_units))
        clear F8
        intro r' tl' h' tk' F9 N9 l9 hp'
        obtain ⟨T9, oT, R9, oR, hr', ht', hB9, loR, sdR⟩ := hp'
        subst hr' ht'
        have hTI : @Ne Nat T9 I := l9 (T9, oT) (.head _) (I, oI) (by k_mem)
        have hRI : @Ne Nat R9 I := l9 (R9, oR) (.tail _ (.head _)) (I, oI) (by k_mem)
        simp only [List.cons_append, List.nil_append] at N9
        clear N8 l9
        k_steps
        rename Fr _ _ _ _ => F10
        rename News _ _ _ _ => N10
        unfold Stop at hP
        subst hP
        refine GEnd.intro ((T9, oT) :: (R9, oR) :: (R, W.listOf (refs7 a).toArray nR) :: (D, W.listOf hvs.toArray nH) :: (@HAdd.hAdd Nat Nat Nat instHAdd L 1, oc') :: tups) F10 N10 (by k_mem) (fun p hp => ?_) (fun p hp => ?_) (fun y hy => by (repeat rw [if_neg (neS hy rfl)]); rw [if_neg (neT hy)])
          ⟨T9, R9, oT, oR, oc', if_pos rfl, rfl, dc, hB9, loR, sdR⟩
        · rcases List.mem_cons.mp hp with rfl | hp
          · exact .head _
          rcases List.mem_cons.mp hp with rfl | hp
          · exact .tail _ (.head _)
          exact .tail _ (.tail _ (.tail _ (.tail _ (.tail _ (.tail _ (.tail _ (.tail _ (.tail _ (.tail _ (.tail _ (.tail _ hp)))))))))))
        · rcases List.mem_cons.mp hp with rfl | hp
          · exact hTI
          rcases List.mem_cons.mp hp with rfl | hp
          · exact hRI
          exact off p (.tail _ (.tail _ hp))
    · clear F0 N0 R0 hs0 lo0
      rintro u news₁ h tk ⟨Bk, Dk, oB, oD, oc', hu, rfl, dc, ⟨p1, p2, p3, p4, rfl⟩, loD, sdD⟩ F2 N2
      replace F2 : Fr g _ h _ := Mine.Fr.carry F2 (k := Str.ofString "book") (by rw [if_pos rfl]; exact hu)
      replace N2 : News g _ h _ := N2
      k_with "dictcomp" => (k_here; refine Stop.out ?_)
      k_steps
      k_with_none
      unfold Stop
      rename Fr _ _ _ _ => F3
      rename News _ _ _ _ => N3
      k_dflt (refine' dictcomp_range F3 N3 (modules_low (Top.nolimit T)) (kf := fun k => spot k) (pz := fun k => decide (wf hts k.toNat ≠ 0)) (d := fun k => PyData.int (wf hts k.toNat)) ?e1 ?e2 rfl ?e4 ?e5 rfl ?e7 ?e8 ?e9 ?e10 ?e11 ?e12; (case e1 => with_unfolding_all rfl); (case e2 => with_unfolding_all rfl); (case e4 => with_unfolding_all rfl); (case e5 => decide); (case e7 => decide); (case e8 => with_unfolding_all rfl); (case e9 => with_unfolding_all rfl); (case e10 => with_unfolding_all rfl); (case e12 => (intro _; with_unfolding_all rfl)))
      k_steps
      rename IsRange _ _ _ _ _ _ _ _ => R9
      rename Fr _ _ _ _ => F9
      rename News _ _ _ _ => N9
      have hmj := fun (j : Nat) (hj : j < 7) => (N9 (a j, tup4 hts ta tb tc td j) (.tail _ (.tail _ (.tail _ (.tail _ (.tail _ (hm j hj))))))).1
      refine (?_ : Stop _)
      refine ⟨_, _, _, _, _, _, 7, rfl, R9, by decide, by decide, by rw [sizeLine_eq]; omega, F9, N9, ?_, ?_, ?_, ?_⟩
      · intro C k t s₂ m₂ E' hk hp hn hm up
        have F10 : Fr g L s₂.heap _ := F9.keeps up
        have N10 : News g L s₂.heap _ := N9.grown up
        have hkr := mem_rangeKs hk
        k_with "bslice" => ((with_reducible show wpAny _ _ (subscriptTail _ _ (Value.str _ _) (Value.int _ _)) _ _ _); refine Stop.out ?_)
        k_steps
        unfold Stop
        k_with_none
        refine KXi.item (x := Str.ofString "0123456") (n := 7) (by decide +kernel) (by omega) (by omega) (by decide) ?_
        intro _
        k_steps
        · rw [held_key (by omega) (by omega)]
          exact strKind_is _ _ _ _
        · exact ⟨_, _, rfl, fun _ _ e => e⟩
      · intro C k t s₂ m₂ E' hk hn hm up
        have F10 : Fr g L s₂.heap _ := F9.keeps up
        have N10 : News g L s₂.heap _ := N9.grown up
        have hkr := mem_rangeKs hk
        have hk7 : k.toNat < 7 := by omega
        have hRl : s₂.heap.IsList R (refs7 a).toArray := News.isList N10 (.tail _ (.tail _ (.head _)))
        have ht0 : IsTup s₂.heap (a k.toNat) [Value.int (lf hts k.toNat) (ta k.toNat), Value.int (hts.getD k.toNat 0) (tb k.toNat), Value.int (rf hts k.toNat) (tc k.toNat), Value.int (wf hts k.toNat) (td k.toNat)].toArray := ⟨_, up _ _ (hmj _ hk7), rfl, _, rfl⟩
        k_with "dueitem" => (k_dflt (refine list_at (v := Value.ref (a k.toNat)) hRl (by omega) (by omega) (ref7n a hk7) ?_))
        k_with "titem" => (k_dflt (refine item_tupleT (j := 3) (x := Value.int (wf hts k.toNat) (td k.toNat)) ht0 (by decide) (by decide) rfl rfl ?_))
        k_steps
        · by_cases hz : wf hts k.toNat = 0 <;> simp [hz]
        · exact ⟨_, _, rfl, fun _ _ e => e⟩
      · intro C k t s₂ m₂ E' hk hp hn hm up
        have F10 : Fr g L s₂.heap _ := F9.keeps up
        have N10 : News g L s₂.heap _ := N9.grown up
        have hkr := mem_rangeKs hk
        have hk7 : k.toNat < 7 := by omega
        have hRl : s₂.heap.IsList R (refs7 a).toArray := News.isList N10 (.tail _ (.tail _ (.head _)))
        have ht0 : IsTup s₂.heap (a k.toNat) [Value.int (lf hts k.toNat) (ta k.toNat), Value.int (hts.getD k.toNat 0) (tb k.toNat), Value.int (rf hts k.toNat) (tc k.toNat), Value.int (wf hts k.toNat) (td k.toNat)].toArray := ⟨_, up _ _ (hmj _ hk7), rfl, _, rfl⟩
        k_with "dueitem" => (k_dflt (refine list_at (v := Value.ref (a k.toNat)) hRl (by omega) (by omega) (ref7n a hk7) ?_))
        k_with "titem" => (k_dflt (refine item_tupleT (j := 3) (x := Value.int (wf hts k.toNat) (td k.toNat)) ht0 (by decide) (by decide) rfl rfl ?_))
        k_steps
        · exact .int _ _
        · exact ⟨_, _, rfl, fun _ _ e => e⟩
      · clear F9 N9
        intro H kvs' h8 tk8 F9 N9 hg9 off9 lo9 hd9 hf9 nHL
        k_with_none
        obtain ⟨oH, hoH, hdH⟩ := Heap.dictOf_iff.mp hd9
        rw [putAll_kdp] at hf9
        have sdH : SD prog w oH (heldC hts) := ⟨kvs', hdH, hf9⟩
        have N10 := News.add N9 (show h8.get? H = some oH from hoH) nHL hg9
        clear N9 hd9 hf9 hdH
        k_with "flat" => (k_here; k_dflt (refine ListComp_map (_F₀ := by k_asm) (by rfl) (by decide) (by rfl) (by decide) (by rfl) ?_ (by intro _; rfl)))
        k_steps
        rename Fr _ _ _ _ => F11
        rename News _ _ _ _ => N11
        refine (?_ : Stop _)
        refine ⟨R, _, _, fun j v => ∃ t, v = Value.int (lf hts j) t, _, rfl, rfl, F11, N11, by k_mem, Nat.le_of_ble_eq_true rfl, ?_, ?_⟩
        · intro C j s₃ m₂ E' hj hn hm2 up
          have hj7 : j < 7 := hj
          have hmi : m₂ (Str.ofString "four") = some (Value.ref (a j)) := hm2.trans (ref7 a hj7)
          have ht0 : IsTup s₃.heap (a j) [Value.int (lf hts j) (ta j), Value.int (hts.getD j 0) (tb j), Value.int (rf hts j) (tc j), Value.int (wf hts j) (td j)].toArray := ⟨_, up _ _ (N11 (a j, tup4 hts ta tb tc td j) (by repeat (first | exact hm j hj7 | apply List.Mem.tail))).1, rfl, _, rfl⟩
          k_with "titem" => (k_dflt (refine item_tupleT (j := 0) (x := Value.int (lf hts j) (ta j)) ht0 (by decide) (by decide) rfl rfl ?_))
          k_steps
          exact ⟨_, _, rfl, fun _ _ e => e⟩
        intro U ysU hU tkU hyl hyf F12 N12 offU
        have hsU := ints_of 7 hyl hyf
        have hslU : ysU.length = 7 := hyl
        clear F11 N11 hyl hyf
        k_steps
        rename Fr _ _ _ _ => F11
        rename News _ _ _ _ => N11
        refine (?_ : Stop _)
        refine ⟨R, _, _, fun j v => ∃ t, v = Value.int (rf hts j) t, _, rfl, rfl, F11, N11, by k_mem, Nat.le_of_ble_eq_true rfl, ?_, ?_⟩
        · intro C j s₃ m₂ E' hj hn hm2 up
          have hj7 : j < 7 := hj
          have hmi : m₂ (Str.ofString "four") = some (Value.ref (a j)) := hm2.trans (ref7 a hj7)
          have ht0 : IsTup s₃.heap (a j) [Value.int (lf hts j) (ta j), Value.int (hts.getD j 0) (tb j), Value.int (rf hts j) (tc j), Value.int (wf hts j) (td j)].toArray := ⟨_, up _ _ (N11 (a j, tup4 hts ta tb tc td j) (by repeat (first | exact hm j hj7 | apply List.Mem.tail))).1, rfl, _, rfl⟩
          k_with "titem" => (k_dflt (refine item_tupleT (j := 2) (x := Value.int (rf hts j) (tc j)) ht0 (by decide) (by decide) rfl rfl ?_))
          k_steps
          exact ⟨_, _, rfl, fun _ _ e => e⟩
        intro V9 ysV9 hV9 tkV9 hyl hyf F12 N12 offV9
        have hsV9 := ints_of 7 hyl hyf
        have hslV9 : ysV9.length = 7 := hyl
        clear F11 N11 hyl hyf
        k_steps
        k_with "cmp" => (k_here; refine Stop.out ?_)
        rename Fr _ _ _ _ => F11
        rename News _ _ _ _ => N11
        refine (?_ : Stop _)
        refine ⟨R, _, _, fun j v => ∃ t, v = Value.int (wf hts j) t, _, rfl, rfl, F11, N11, by k_mem, Nat.le_of_ble_eq_true rfl, ?_, ?_⟩
        · intro C j s₃ m₂ E' hj hn hm2 up
          have hj7 : j < 7 := hj
          have hmi : m₂ (Str.ofString "four") = some (Value.ref (a j)) := hm2.trans (ref7 a hj7)
          have ht0 : IsTup s₃.heap (a j) [Value.int (lf hts j) (ta j), Value.int (hts.getD j 0) (tb j), Value.int (rf hts j) (tc j), Value.int (wf hts j) (td j)].toArray := ⟨_, up _ _ (N11 (a j, tup4 hts ta tb tc td j) (by repeat (first | exact hm j hj7 | apply List.Mem.tail))).1, rfl, _, rfl⟩
          k_with "titem" => (k_dflt (refine item_tupleT (j := 3) (x := Value.int (wf hts j) (td j)) ht0 (by decide) (by decide) rfl rfl ?_))
          k_steps
          exact ⟨_, _, rfl, fun _ _ e => e⟩
        intro W9 ysW9 hW9 tkW9 hyl hyf F12 N12 offW9
        have hsW9 := ints_of 7 hyl hyf
        have hslW9 : ysW9.length = 7 := hyl
        clear F11 N11 hyl hyf
        k_steps
        unfold Stop
        k_with_none
        rename News _ _ _ (_ :: _ :: _ :: _ :: _ :: _ :: _ :: _ :: _ :: _ :: tups) => N13
        have dA : Dct prog w _ Dk (bookC hts 7) := ⟨loD, oD, (N13 (Dk, oD) (by k_mem)).1, sdD⟩
        have dH : Dct prog w _ H (heldC hts) := ⟨lo9, oH, (N13 (H, oH) (by k_mem)).1, sdH⟩
        have hDH : Dk ≠ H := off9 _ (.tail _ (.head _))
        refine ne_tup_last (xs := [Value.int _ p1, Value.int _ p2, Value.int _ p3, Value.int _ p4]) (v := Value.ref Dk) (ys := [Value.int _ _, Value.int _ _, Value.int _ _, Value.int _ _]) (y := Value.ref H) (N13 (Bk, _) (by k_mem)).1 (N13 _ (.head _)).1 ?hu
          (.cons (eqAt_int _ _ ?i1) (.cons (eqAt_int _ _ ?i2) (.cons (eqAt_int _ _ ?i3) (.cons (eqAt_int _ _ ?i4) .nil)))) (fun E' Q' hQ' => eqb_dcts _ hDH dA dH (book_tells h7 hb8) ?hu2 hQ') ?_
        (case hu => first | ktr_units | (show un + 3 < cLine; omega))
        (case hu2 => first | ktr_units | (show un + 3 + 1 < cLine; omega))
        (case i1 => exact acc_heights h7)
        (case i2 => exact accS_sum _ 7)
        (case i3 => exact accS_sum _ 7)
        (case i4 => exact accS_sum _ 7)
        clear dA dH
        k_with "call" => (k_here; refine Stop.out ?_)
        k_steps
        unfold Stop
        k_with_none
        rename Fr _ _ _ _ => F14
        rename News _ _ _ (_ :: _ :: _ :: _ :: _ :: _ :: _ :: _ :: _ :: _ :: tups) => N14
        k_dflt (refine' PCU.use (levels_spec prog w _ D hvs hts (News.isList N14 (by k_mem)) hI h7 hb8) rfl rfl rfl rfl B (fun _ hb => nomatch hb) F14 N14 HB0 ?k7 ?k8 ?_; (case k7 => ktr_room); (case k8 => ktr_units))
        clear F14 N14
        intro r' tl' h' tk' h₁ Tn F14 N14 l14 K1 D1 hp'
        obtain ⟨Dt, ot, hr', ht', lot, sdt⟩ := hp'
        subst hr' ht'
        have kp : ∀ b o, g.get? b = some o → h₁.get? b = some o := fun b o e => Tn.other b o e (fun hm => nomatch hm)
        have HB1 := HB0.keeps kp
        have X1 := HB1.X
        have T1 := HB1.T
        have V1 := HB1.V
        have hDtH : Dt ≠ H := l14 (Dt, ot) (.head _) (H, oH) (by k_mem)
        simp only [List.cons_append, List.nil_append] at N14
        clear l14
        k_with "cmp" => (k_here; refine Stop.out ?_)
        k_steps
        unfold Stop
        k_with_none
        rename Fr _ _ _ _ => F15
        rename News _ _ _ _ => N15
        have dT : Dct prog w _ Dt (levC hts 8) := ⟨lot, ot, (N15 (Dt, ot) (by k_mem)).1, sdt⟩
        have dH : Dct prog w _ H (heldC hts) := ⟨lo9, oH, (N15 (H, oH) (by k_mem)).1, sdH⟩
        refine ne_dcts dT dH (lev_tells h7 hb8) ?hu ?_
        (case hu => first | ktr_units | (show un + 3 < cLine; omega))
        k_with "call" => (k_here; refine Stop.out ?_)
        k_steps
        k_with_none
        unfold Stop
        k_dflt (refine' PC.use (count_spec prog w _ Dt _ dT) rfl rfl rfl rfl K1 F15 N15 X1 T1 V1 ?k7 ?k8 ?_; (case k7 => ktr_room); (case k8 => ktr_units))
        clear dT dH F15 N15
        intro r' tl' h' tk' F15 N15 l15 hp'
        obtain ⟨tC, hr', ht'⟩ := hp'
        subst hr' ht'
        rw [List.nil_append] at N15
        clear l15
        have hfin := lev_sum h7 hb8
        k_steps
        rename Fr _ _ _ _ => F16
        rw [hMx, ← hfin, beq_self_eq_true]
        exact Stop.out hret _ _ (fun b o e => F16.keep b o (kp b o e))

end Mine
end
section
-- FinZ
open PySem PySem.W PyProof.Rows PySem.Calls PySem.Spec PyProof.V
set_option Elab.async false
set_option maxRecDepth 100000
set_option maxHeartbeats 4000000
namespace Mine
theorem law_post (l : OpenLaw) (args ds : List WData) : l.row.toRowW.claim.post args (WData.bool true) ds = true := by
  unfold RowW.claim OpenLaw.row
  simp [WShape.has, WShape.arms, WTm.holds, WTm.value, PySem.W.same]
theorem final : PySem.Challenge.rw_zn0017_01.Holds := hd (by
  k_fill
  intro w s₀ s₁ mg mb G Y fa o pm cd doc dV kV ho hd hcd hD hmg hg args vals as hpre hlay hrd hwl hlo
  have KX := kIn_of Y
  have X := (Ground.X G).1
  have V := (Ground.X G).2
  refine Ground.open G ?_
  intro T B D TE TW
  try (refine guard_noD D (by decide +kernel) ?_; clear D)
  have hfa : fa = 144 := by
    have e : mg (Str.ofString "law") = some (Value.ref 144) := mg_of KX (Top.g T) (by k_is)
    have e2 : mg (Str.ofString "law") = some (Value.ref fa) := hmg
    rw [e] at e2
    exact (Value.ref.inj (Option.some.inj e2)).symm
  subst hfa
  wrow_args hpre hlay hrd hwl hlo
  rename Heap.IsList _ _ _ => hL
  rename IntsAre _ _ => hI
  rename ¬ _ < _ => hlen
  refine law_spec _ w s₁.heap _ _ _ hL hI (by omega) (ExcName.means s₀.heap) mg mb (1 + claimMargin) 4 (some []) callerA s₁ _ _ rfl ⟨KX, T, V⟩ (below_caller _) (by decide) (by decide) ?_
  intro h' tk' k
  refine GoodW.toG ⟨.inl ⟨.bool true, .bool true, [], rfl, fun cls => ?_, .bool true, ?_, unshared_nil⟩, k, rfl, hg⟩
  · rfl
  · exact law_post _ _ _)
end Mine
end
end
end
theorem PySem.Challenge.cw_zn0017_01_holds : PySem.Challenge.rw_zn0017_01.Holds :=
  Mine.final

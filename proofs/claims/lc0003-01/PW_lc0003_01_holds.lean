import PyProof.Rows.All
import Wide.All
import OpenK.AllK
import Wide.FinOn
import PySem.Challenge.RW_lc0003_01
open PySem PySem.W PySem.Calls PyProof.Rows
set_option Elab.async false
set_option linter.unusedVariables false
set_option linter.unusedSimpArgs false

namespace Mine

/-! ## A logic for clean stacks: no code of the decoders that hold a bytearray lies on the stack -/

def holdsCode : Code → Bool
  | .builtin id _ => Builtin.Bytes.decodersThatHold.contains id
  | _ => false
def Clean (Γ : Ctx) : Prop := holdsCode Γ.code = false ∧ ∀ x ∈ Γ.below, holdsCode x.1 = false

def wpC {α : Type} (M : Model) (A : Around) (t : Sem α) (Q : α → Shared → Prop) (E : Value → Shared → Prop) (s : Shared) : Prop :=
  ∀ Γ p, Γ.In A → Clean Γ → Sem.wp M Γ t (fun a _ s' => Q a s') (fun e _ s' => E e s') p s
def codeC (M : Model) (A : Around) (c : Code) (R : Result → Shared → Prop) (s : Shared) : Prop :=
  ∀ Γ p, Γ.code = c → Γ.Below A → (∀ x ∈ Γ.below, holdsCode x.1 = false) → wpCode M Γ R p s

section
variable {α β : Type} {M : Model} {A : Around} {E : Value → Shared → Prop} {s : Shared}

theorem wpC_any {t : Sem α} {Q : α → Shared → Prop} (h : wpAny M A t Q E s) : wpC M A t Q E s := fun Γ p hΓ _ => h Γ p hΓ
theorem codeC_any {c : Code} {R : Result → Shared → Prop} (h : codeAny M A c R s) : codeC M A c R s := fun Γ p hc hΓ _ => h Γ p hc hΓ
theorem wpC_mono {t : Sem α} {Q Q' : α → Shared → Prop} {E' : Value → Shared → Prop} (h : wpC M A t Q E s) (hQ : ∀ a s, Q a s → Q' a s) (hE : ∀ e s, E e s → E' e s) : wpC M A t Q' E' s :=
  fun Γ p hΓ hC => Sem.wp_mono M Γ t (fun a _ s => hQ a s) (fun e _ s => hE e s) p s (h Γ p hΓ hC)
theorem codeC_mono {c : Code} {R R' : Result → Shared → Prop} (h : codeC M A c R s) (hR : ∀ r s, R r s → R' r s) : codeC M A c R' s :=
  fun Γ p hc hΓ hC => wpCode_mono hR (h Γ p hc hΓ hC)
theorem wpC_bind {m : Sem α} {f : α → Sem β} {Q : β → Shared → Prop} (h : wpC M A m (fun a s' => wpC M A (f a) Q E s') E s) : wpC M A (m >>= f) Q E s := fun Γ p hΓ hC => by
  rw [Sem.wp_bind']
  exact Sem.wp_mono M Γ m (fun a p' s' h' => h' Γ p' hΓ hC) (fun _ _ _ h' => h') p s (h Γ p hΓ hC)
/-- the first part by the library's logic -/
theorem wpC_bindA {m : Sem α} {f : α → Sem β} {Q : β → Shared → Prop} (h : wpAny M A m (fun a s' => wpC M A (f a) Q E s') E s) : wpC M A (m >>= f) Q E s := wpC_bind (wpC_any h)
theorem wpC_pure {a : α} {Q : α → Shared → Prop} (h : Q a s) : wpC M A (pure a) Q E s := fun _ _ _ _ => h
theorem wpC_holding {vs : List Value} {m : Sem α} {Q : α → Shared → Prop} (h : wpC M A m Q E s) : wpC M A (holding vs m) Q E s :=
  fun Γ p hΓ hC => by rw [Sem.wp_holding]; exact h Γ p hΓ hC
theorem wpC_keep {vs : List Value} {m : Sem α} {Q : α → Shared → Prop} (h : wpC M A m Q E s) : wpC M A (m.keep vs) Q E s :=
  fun Γ p hΓ hC => by rw [Sem.wp_keep]; exact h Γ p hΓ hC
theorem wpC_operate {vs : List Value} {m : Sem Value} {Q : Value → Shared → Prop} (h : wpC M A m Q E s) : wpC M A (operate vs m) Q E s :=
  fun Γ p hΓ hC => by rw [Sem.wp_operate]; exact h Γ p hΓ hC
theorem wpC_standAt {pos : Pos} {Q : Unit → Shared → Prop} (h : Q () s) : wpC M A (standAt pos) Q E s := fun _ _ _ _ => h
theorem wpC_onRaise {m : Sem α} {k : Value → Sem Unit} {Q : α → Shared → Prop} (h : wpC M A m Q (fun _ _ => False) s) : wpC M A (m.onRaise k) Q E s := fun Γ p hΓ hC => by
  rw [Sem.wp_onRaise]
  exact Sem.wp_mono M Γ m (fun _ _ _ h' => h') (fun _ _ _ h' => h'.elim) p s (h Γ p hΓ hC)
theorem wpC_ite {c : Prop} [Decidable c] {a b : Sem α} {Q : α → Shared → Prop} (h : if c then wpC M A a Q E s else wpC M A b Q E s) : wpC M A (if c then a else b) Q E s := by
  split <;> simp_all

theorem wpC_call {f : Value} {pos : List Value} {kw : List (Str × Value)} {Q : Value → Shared → Prop}
    (hc : codeC M A (.call f ⟨pos, kw⟩) (wants Q E) s) : wpC M A (call f pos kw) Q E s := fun Γ p hΓ hC => by
  rw [Sem.wp_cmd_call]
  refine hc (Γ.enter _ none p) p rfl (hΓ.enter _ none p (by intro x; cases x)) fun x hx => ?_
  rcases List.mem_cons.mp hx with rfl | hx
  · exact hC.1
  · exact hC.2 x hx

theorem codeC_tree {c : Code} {R : Result → Shared → Prop} (hcl : holdsCode c = false)
    (h : wpC M (A.under c) (M.den c) (fun fin s' => match fin with | .done f => R (.ok f) s' | .again c' => c'.quiet = true ∧ codeC M A c' R s') (fun e s' => R (.error e) s') s) : codeC M A c R s := fun Γ p hc hΓ hC => by
  rw [wpCode_iff_wp, hc]
  refine Sem.wp_mono M Γ _ (fun fin p' s' h' => ?_) (fun _ _ _ h' => h') p s (h Γ p (hc ▸ hΓ.in) ⟨by rw [hc]; exact hcl, hC⟩)
  cases fin with
  | done f => exact h'
  | again c' => exact ⟨h'.1, h'.2 (Γ.goto c') p' rfl (hΓ.goto c') hC⟩

theorem wpC_execs_cons {st : Stmt} {rest : List Stmt} {env : Env} {Q : Flow → Shared → Prop}
    (h : wpC M A (exec st env) (fun f s' => match f with | .next => wpC M A (execs rest env) Q E s' | f => Q f s') E s) : wpC M A (execs (st :: rest) env) Q E s := fun Γ p hΓ hC => by
  rw [execs_cons, Sem.wp_bind']
  refine Sem.wp_mono M Γ _ (fun f p' s' h' => ?_) (fun _ _ _ h' => h') _ _ (h Γ p hΓ hC)
  cases f <;> first | exact h' Γ p' hΓ hC | exact h'
theorem execs_append (env : Env) (b : List Stmt) : ∀ a : List Stmt, execs (a ++ b) env = (do match ← execs a env with | .next => execs b env | f => pure f)
  | [] => by rw [List.nil_append, execs_nil]; rfl
  | st :: a => by
    rw [List.cons_append, execs_cons, execs_cons, execs_append env b a, bind_assoc]
    congr 1
    funext f
    cases f <;> rfl
/-- a block's front part by the library's logic, its end by this one -/
theorem wpC_execs_front {a b : List Stmt} {env : Env} {Q : Flow → Shared → Prop}
    (h : wpAny M A (execs a env) (fun f s' => match f with | .next => wpC M A (execs b env) Q E s' | f => Q f s') E s) : wpC M A (execs (a ++ b) env) Q E s := by
  rw [execs_append]
  refine wpC_bindA (wpAny_mono h (fun f s' h' => ?_) fun _ _ x => x)
  cases f <;> first | exact h' | exact wpC_pure h'
theorem wpAny_execs_append {a b : List Stmt} {env : Env} {Q : Flow → Shared → Prop}
    (h : wpAny M A (execs a env) (fun f s' => match f with | .next => wpAny M A (execs b env) Q E s' | f => Q f s') E s) : wpAny M A (execs (a ++ b) env) Q E s := by
  rw [execs_append]
  refine wpAny_bind (wpAny_mono h (fun f s' h' => ?_) fun _ _ x => x)
  cases f <;> first | exact h' | exact wpAny_pure h'
end

section
variable {M : Model} {A : Around} {E : Value → Shared → Prop} {s : Shared}
/-- no bytearray is held by a clean stack without guards -/
theorem wpC_exported {a : Addr} {Q : Bool → Shared → Prop} (hg : A.guards = some []) (h : Q false s) : wpC M A (Builtin.Bytes.exported (.ref a)) Q E s := fun Γ p hΓ hC => by
  have hgs : guardsOf ((Γ.code, p) :: Γ.below) = [] := by rw [guardsOf_cons]; exact hΓ.2.2.2.1 [] hg
  have hcl : ∀ x ∈ (Γ.code, p) :: Γ.below, holdsCode x.1 = false := fun x hx => by
    rcases List.mem_cons.mp hx with rfl | hx
    · exact hC.1
    · exact hC.2 x hx
  generalize hl : (Γ.code, p) :: Γ.below = l at hgs hcl
  unfold Builtin.Bytes.exported
  show Sem.wp M Γ (stack >>= fun l => pure (l.any _)) _ _ p s
  rw [Sem.wp_bind']
  show Q (List.any ((Γ.code, p) :: Γ.below) _) s
  rw [hl]
  refine Eq.mpr (congrArg (fun b => Q b s) ?_) h
  rw [List.any_eq_false]
  intro x hx
  have h1 : x.1.isGuard = false := by
    have h2 : x.1 ∉ guardsOf l := by rw [hgs]; exact List.not_mem_nil
    cases h3 : x.1.isGuard with
    | false => rfl
    | true => exact absurd (List.mem_filter.mpr ⟨List.mem_map_of_mem hx, h3⟩) h2
  have h2 := hcl x hx
  obtain ⟨c, p⟩ := x
  simp only at h1 h2 ⊢
  split
  all_goals rename_i he
  · cases he; exact absurd h1 (by show ¬ guardIds.contains "bytearray.__contains__" = false; decide)
  · cases he; exact absurd h1 (by show ¬ guardIds.contains "bytearray.__mod__" = false; decide)
  · cases he; exact absurd h1 (by show ¬ guardIds.contains "bytearray.__rmod__" = false; decide)
  · cases he; exact absurd h1 (by show ¬ guardIds.contains "_struct.pack_into.held" = false; decide)
  · cases he; exact absurd h1 (by show ¬ guardIds.contains "bytearray.find.held" = false; decide)
  · cases he
    have h3 : Builtin.Bytes.decodersThatHold.contains _ = false := h2
    rw [h3, Bool.and_false]
    exact Bool.false_ne_true
  · exact Bool.false_ne_true
end

section
variable {prog : Program} {w : World} {A : Around} {E : Value → Shared → Prop} {R : Result → Shared → Prop} {s : Shared}

theorem codeC_func {body : List Stmt} {env : Env}
    (h : wpC (model prog w) (A.deeper env) (execs body env) (fun f s' => R (.ok (.ret (match f with | .ret v => v | _ => .none))) s') (fun _ _ => False) s) : codeC (model prog w) A (.func body env) R s := by
  refine codeC_tree rfl ?_
  show wpC _ (A.deeper env) (do point; match ← (execs body env).onRaise (leaving env) with | .ret v => ret v | _ => ret .none) _ _ s
  refine wpC_bindA (wpAny_point (wpC_bind (wpC_onRaise (wpC_mono h (fun f s' h' => ?_) fun _ _ x => x.elim))))
  cases f <;> exact wpC_pure h'

theorem codeC_call_function {a : Addr} {args : Args} {o : Obj} {fd : FuncData} {body : List Stmt} (hroom : A.depth < recursionLimit) (ho : s.heap.get? a = some o)
    (hd' : o.data = .func fd) (hco : fd.scope.isCoroutine = false) (hgen : fd.scope.isGenerator = false) (hbody : fd.body = .stmts body) (hcd : s.heap.CodeRec fd.code fd.qualname)
    (h : wpAny (model prog w) A.in1 (bindArgs fd args) (fun binds s₁ =>
      wpAny (model prog w) A.in1 (newFunctionEnv fd.scope fd.globals fd.closure binds (fd.qualname ++ ".<locals>.") (some a) fd.code none fd.builtins)
        (fun env s₂ => s₂.heap.NoLimit ∧ codeC (model prog w) A (.func body env) R s₂) (fun e s' => R (.error e) s') s₁) (fun e s' => R (.error e) s') s) :
    codeC (model prog w) A (.call (.ref a) args) R s := by
  refine codeC_tree rfl (wpC_any ?_)
  show wpAny _ A.in1 (callAny (.ref a) args) _ _ s
  simp only [callAny]
  refine wpAny_bind (wpAny_load ho ?_)
  obtain ⟨c, oc, vs, tq, hc, hoc, hdc, hq⟩ := hcd
  simp only [hd', callFunction, hco, hgen, hbody, hc]
  rw [hc] at h
  refine wpAny_bind (m := field (.ref c) 1) (wpAny_field hoc hdc hq (wpAny_bind (wpAny_pure ?_)))
  exact wpAny_bind (wpAny_mono h (fun binds s₁ h₁ => wpAny_bind (wpAny_mono h₁ (fun env s₂ h₂ => wpAny_bind (wpAny_enterFrame h₂.1 hroom
    (wpAny_pure (And.intro rfl h₂.2)))) fun _ _ h' => h')) fun _ _ h' => h')

/-- a call of a plain def: everything that stood is kept, the locals are the bound names -/
theorem codeC_def {a : Addr} {o : Obj} {fd : FuncData} {body : List Stmt} {args : Args} {binds : List (Str × Value)}
    (hroom : A.depth < recursionLimit) (ho : s.heap.get? a = some o) (hdata : o.data = .func fd) (hlim : s.heap.NoLimit) (hcd : s.heap.CodeRec fd.code fd.qualname)
    (hbody : fd.body = .stmts body) (hbind : BindsTo s fd args binds)
    (hcell : ∀ x ∈ fd.scope.names, x.2 ≠ .cell) (hloc : ∀ x ∈ binds, fd.scope.names.lookup x.1 = some .local)
    (h : ∀ h₀, Fr s.heap s.heap.objs.size h₀ (fun x => binds.reverse.lookup x) →
      wpC (model prog w) (A.deeper (callEnv fd s.heap.objs.size a)) (execs body (callEnv fd s.heap.objs.size a)) (fun f s' => R (.ok (.ret (match f with | .ret v => v | _ => .none))) s')
        (fun _ _ => False) { s with heap := h₀, toks := s.toks + binds.length })
    (hco : fd.scope.isCoroutine = false := by rfl) (hgen : fd.scope.isGenerator = false := by rfl) (hk : fd.scope.kind = .function := by rfl) :
    codeC (model prog w) A (.call (.ref a) args) R s := by
  refine codeC_call_function hroom ho hdata hco hgen hbody hcd (hbind _ _ _ _ ?_)
  refine wpAny_newFunctionEnv hcell hloc (fun h₀ hns₀ hsb₀ => ⟨hlim.fresh _ hsb₀, codeC_func (h h₀ ⟨hns₀, fun b o e => ?_, Nat.le_refl _⟩)⟩) hk
  exact hsb₀.extBut b o (Nat.ne_of_lt (Heap.lt_size e)) (Heap.get?_push_of_some _ e)

/-- a built-in's call, its body in the clean logic -/
theorem codeC_builtin {id : String} {args : Args} {b : Builtin} (hcl : holdsCode (.builtin id args) = false) (hq : plainId id = true) (hb : entryFor table id = some b)
    (h : wpAny (model prog w) A.in1 (checkBuiltinCall id args) (fun _ s₁ => wpC (model prog w) A.in1 (b args) (fun fin s' => match fin with | .done f => R (.ok f) s' | .again c' => c'.quiet = true ∧ codeC (model prog w) A c' R s') (fun e s' => R (.error e) s') s₁)
      (fun e s' => R (.error e) s') s) :
    codeC (model prog w) A (.call (.builtin id) args) R s := by
  refine codeC_tree rfl (wpC_any ?_)
  show wpAny _ A.in1 (do checkBuiltinCall id args; again (.builtin id args)) _ _ s
  refine wpAny_bind (wpAny_mono h (fun _ s₁ h₁ => wpAny_pure ⟨plainId_quiet hq args, codeC_tree hcl ?_⟩) fun _ _ x => x)
  rw [Around.under_plainId hq args]
  show wpC _ _ (match entryFor table id with | some b => b args | none => unsupported ((withoutEnding? id "#data").getD id)) _ _ s₁
  rw [hb]; exact h₁
end

theorem wpC_if_false {α : Type} {M : Model} {A : Around} {E : Value → Shared → Prop} {s : Shared} {c : Bool} {a b : Sem α} {Q : α → Shared → Prop} (hc : c = false) (h : wpC M A b Q E s) : wpC M A (if c = true then a else b) Q E s := by
  subst hc
  exact h
theorem wpC_if_true {α : Type} {M : Model} {A : Around} {E : Value → Shared → Prop} {s : Shared} {c : Bool} {a b : Sem α} {Q : α → Shared → Prop} (hc : c = true) (h : wpC M A a Q E s) : wpC M A (if c = true then a else b) Q E s := by
  subst hc
  exact h
theorem den_builtin {prog : Program} {w : World} {id : String} {args : Args} {bf : Builtin} (hb : entryFor table id = some bf) : (model prog w).den (.builtin id args) = bf args := by
  show (match entryFor table id with | some b => b args | none => unsupported ((withoutEnding? id "#data").getD id)) = _
  rw [hb]
/-- a special method of a built-in type, its call in the clean logic -/
theorem wpC_callSpecial {M : Model} {A : Around} {E : Value → Shared → Prop} {s : Shared} {self : Value} {T : String} {name : PySem.Str} {id : String} {args : List Value}
    {Q : Option Value → Shared → Prop} (hT : s.TypeIs self T) (h : Slot T name id)
    (hc : wpC M A (call (.builtin id) (self :: args)) (fun v => Q (some v)) E s) : wpC M A (callSpecial? self name args) Q E s := by
  simp only [callSpecial?]
  refine wpC_bindA (wpAny_specialOf hT h.lookup ?_)
  simp only [h.bind]
  exact wpC_holding (wpC_bindA (wpAny_pure (wpC_bind (wpC_mono hc (fun v s' h' => wpC_pure h') fun _ _ h' => h'))))
end Mine

namespace Mine
open Builtin
set_option maxRecDepth 100000

/-! ## bytearray: facts of the type -/
abbrev baObj (b : Array UInt8) : Obj := { cls := .type "bytearray", data := .bytearray b }

theorem ba_slot_len : Slot "bytearray" "__len__" "bytearray.__len__" :=
  .of (owner := "bytearray") (n := "__len__") (by rw [typeLookup_type, builtinLookup_eq_fast]; kernel_rfl) (by decide +kernel) (by decide +kernel) (by decide +kernel)
    (by first | exact .inl (by decide +kernel) | exact .inr (by decide +kernel)) (by rw [isSubtype_type]; kernel_rfl)
theorem ba_slot_iter : Slot "bytearray" "__iter__" "bytearray.__iter__" :=
  .of (owner := "bytearray") (n := "__iter__") (by rw [typeLookup_type, builtinLookup_eq_fast]; kernel_rfl) (by decide +kernel) (by decide +kernel) (by decide +kernel)
    (by first | exact .inl (by decide +kernel) | exact .inr (by decide +kernel)) (by rw [isSubtype_type]; kernel_rfl)
theorem ba_slot_getitem : Slot "bytearray" "__getitem__" "bytearray.__getitem__" :=
  .of (owner := "bytearray") (n := "__getitem__") (by rw [typeLookup_type, builtinLookup_eq_fast]; kernel_rfl) (by decide +kernel) (by decide +kernel) (by decide +kernel)
    (by first | exact .inl (by decide +kernel) | exact .inr (by decide +kernel)) (by rw [isSubtype_type]; kernel_rfl)
theorem ba_slot_setitem : Slot "bytearray" "__setitem__" "bytearray.__setitem__" :=
  .of (owner := "bytearray") (n := "__setitem__") (by rw [typeLookup_type, builtinLookup_eq_fast]; kernel_rfl) (by decide +kernel) (by decide +kernel) (by decide +kernel)
    (by first | exact .inl (by decide +kernel) | exact .inr (by decide +kernel)) (by rw [isSubtype_type]; kernel_rfl)
theorem ba_slot_init : Slot "bytearray" "__init__" "bytearray.__init__" :=
  .of (owner := "bytearray") (n := "__init__") (by rw [typeLookup_type, builtinLookup_eq_fast]; kernel_rfl) (by decide +kernel) (by decide +kernel) (by decide +kernel)
    (by first | exact .inl (by decide +kernel) | exact .inr (by decide +kernel)) (by rw [isSubtype_type]; kernel_rfl)
theorem bai_slot_next : Slot "bytearray_iterator" "__next__" "bytearray_iterator.__next__" :=
  .of (owner := "bytearray_iterator") (n := "__next__") (by rw [typeLookup_type, builtinLookup_eq_fast]; kernel_rfl) (by decide +kernel) (by decide +kernel) (by decide +kernel)
    (by first | exact .inl (by decide +kernel) | exact .inr (by decide +kernel)) (by rw [isSubtype_type]; kernel_rfl)
theorem bai_slot_iter : Slot "bytearray_iterator" "__iter__" "bytearray_iterator.__iter__" :=
  .of (owner := "bytearray_iterator") (n := "__iter__") (by rw [typeLookup_type, builtinLookup_eq_fast]; kernel_rfl) (by decide +kernel) (by decide +kernel) (by decide +kernel)
    (by first | exact .inl (by decide +kernel) | exact .inr (by decide +kernel)) (by rw [isSubtype_type]; kernel_rfl)
theorem ba_entry_len : entryFor table "bytearray.__len__" = some Builtin.«bytearray.__len__» := entryFor_of_tree (by kernel_rfl)
theorem ba_entry_iter : entryFor table "bytearray.__iter__" = some Builtin.«bytearray.__iter__» := entryFor_of_tree (by kernel_rfl)
theorem ba_entry_getitem : entryFor table "bytearray.__getitem__" = some Builtin.«bytearray.__getitem__» := entryFor_of_tree (by kernel_rfl)
theorem ba_entry_setitem : entryFor table "bytearray.__setitem__" = some Builtin.«bytearray.__setitem__» := entryFor_of_tree (by kernel_rfl)
theorem ba_entry_init : entryFor table "bytearray.__init__" = some Builtin.«bytearray.__init__» := entryFor_of_tree (by kernel_rfl)
theorem ba_entry_new : entryFor table "bytearray.__new__" = some Builtin.«list.__new__» := entryFor_alias (id' := "list.__new__") (by kernel_rfl) rfl (by decide +kernel) (by kernel_rfl)
theorem bai_entry_next : entryFor table "bytearray_iterator.__next__" = some Builtin.«bytearray_iterator.__next__» := entryFor_of_tree (by kernel_rfl)
theorem bai_entry_iter : entryFor table "bytearray_iterator.__iter__" = some Builtin.«dict_keyiterator.__iter__» := entryFor_alias (id' := "dict_keyiterator.__iter__") (by kernel_rfl) rfl (by decide +kernel) (by kernel_rfl)
theorem ba_args_len (a : Value) : argsOk "bytearray.__len__" ⟨[a], []⟩ := by unfold argsOk; kernel_rfl
theorem ba_args_iter (a : Value) : argsOk "bytearray.__iter__" ⟨[a], []⟩ := by unfold argsOk; kernel_rfl
theorem ba_args_getitem (a b : Value) : argsOk "bytearray.__getitem__" ⟨[a, b], []⟩ := by unfold argsOk; kernel_rfl
theorem ba_args_setitem (a b c : Value) : argsOk "bytearray.__setitem__" ⟨[a, b, c], []⟩ := by unfold argsOk; kernel_rfl
theorem ba_args_init (a b : Value) : argsOk "bytearray.__init__" ⟨[a, b], []⟩ := by unfold argsOk; kernel_rfl
theorem bai_args_next (a : Value) : argsOk "bytearray_iterator.__next__" ⟨[a], []⟩ := by unfold argsOk; kernel_rfl
theorem bai_args_iter (a : Value) : argsOk "bytearray_iterator.__iter__" ⟨[a], []⟩ := by unfold argsOk; kernel_rfl
theorem ba_newCall (a : Value) : checkBuiltinCall "bytearray.__new__" ⟨[.type "bytearray", a], []⟩ = pure () := by kernel_rfl
theorem ba_typeCall (a : Value) : checkTypeCall "bytearray" ⟨[a], []⟩ = pure () := by kernel_rfl
theorem ba_plain_new : plainId "bytearray.__new__" = true := by decide +kernel
theorem ba_mro : mroOf (.type "bytearray") = pure [.type "bytearray", .type "object"] := by rw [mroOf_type]; kernel_rfl
theorem ba_lookup_new : typeLookup (.type "bytearray") "__new__" = pure (some (.builtin "bytearray.__new__")) := by rw [typeLookup_type, builtinLookup_eq_fast]; kernel_rfl
theorem ba_sub : isSubtype (.type "bytearray") (.type "bytearray") = pure true := by rw [isSubtype_type]; kernel_rfl
theorem ba_called : TypeCalled "bytearray" "bytearray.__new__" "bytearray.__init__" :=
  ⟨by decide +kernel, by decide +kernel, ⟨_, _, ba_mro⟩, madeBy_type ba_mro ba_lookup_new (by decide +kernel), by decide +kernel, ba_sub, ba_slot_init⟩
theorem ba_look_release : typeLookup (.type "bytearray") "__release_buffer__" = pure (some (.builtin "bytearray.__release_buffer__")) := by rw [typeLookup_type, builtinLookup_eq_fast]; kernel_rfl
theorem ba_look_buffer : typeLookup (.type "bytearray") "__buffer__" = pure (some (.builtin "bytearray.__buffer__")) := by rw [typeLookup_type, builtinLookup_eq_fast]; kernel_rfl
theorem ba_no_index : typeLookup (.type "bytearray") "__index__" = pure none := by rw [typeLookup_type, builtinLookup_eq_fast]; kernel_rfl
theorem by_no_index : typeLookup (.type "bytes") "__index__" = pure none := by rw [typeLookup_type, builtinLookup_eq_fast]; kernel_rfl
theorem li_no_int : typeLookup (.type "list") "__int__" = pure none := by rw [typeLookup_type, builtinLookup_eq_fast]; kernel_rfl
theorem li_no_float : typeLookup (.type "list") "__float__" = pure none := by rw [typeLookup_type, builtinLookup_eq_fast]; kernel_rfl
theorem li_no_complex : isSubtype (.type "list") (.type "complex") = pure false := by rw [isSubtype_type]; kernel_rfl
theorem li_no_ba : isSubtype (.type "list") (.type "bytearray") = pure false := by rw [isSubtype_type]; kernel_rfl

section
variable {s : Shared} {a : Addr} {b : Array UInt8}
theorem ba_typeIs (h : s.heap.get? a = some (baObj b)) : s.TypeIs (.ref a) "bytearray" := ⟨_, h, rfl⟩
end

/-! ## len, an item stored, the iterator -/
section
variable {prog : Program} {w : World} {A : Around} {E : Value → Shared → Prop} {s : Shared} {a : Addr} {b : Array UInt8}

theorem ba_payload {M : Model} {Q : Array UInt8 → Shared → Prop} (h : s.heap.get? a = some (baObj b)) (hq : Q b s) : wpAny M A (Bytes.payload (.ref a)) Q E s := by
  unfold Bytes.payload Bytes.payload?
  refine wpAny_bind (wpAny_bind (wpAny_load h ?_))
  exact wpAny_pure (wpAny_pure hq)

theorem ba_len {Q : Value → Shared → Prop} (h : s.heap.get? a = some (baObj b)) (hz : b.size ≤ 1099511627776) (hq : ∀ t k, Q (.int b.size t) { s with toks := k }) : wpAny (model prog w) A (call (.builtin "len") [.ref a]) Q E s := by
  refine Calls.call_function_entry kind_len plain_len entry_len (args_len1 _) ?_
  unfold Builtin.«len»
  refine wpAny_bind (m := oneArg "len" _) (wpAny_pure ?_)
  refine wpAny_bind (m := callSpecial? (.ref a) (PySem.Str.ofString "__len__")) (wpAny_callSpecial?_slot (name := PySem.Str.ofString "__len__") (ba_typeIs h) ba_slot_len
    (wpAny_call_entry ba_slot_len (ba_typeIs h) ba_entry_len ?_ (ba_args_len _)))
  show wpAny _ _ (Bytes.payload (.ref a) >>= fun p => retInt p.size) _ _ s
  refine wpAny_bind (ba_payload h ?_)
  refine wpAny_bind (wpAny_mkInt (wpAny_pure ⟨_, rfl, ?_⟩))
  refine wpAny_bind (wpAny_holding (wpAny_pure ?_))
  refine wpAny_bind (wpAny_letGo ?_)
  show wpAny _ _ (if ((b.size : Nat) : Int) < 0 then _ else _) _ _ _
  rw [if_neg (by omega)]
  show wpAny _ _ (if ((b.size : Nat) : Int) ≥ 2 ^ 63 then _ else _) _ _ _
  rw [if_neg (by omega)]
  exact wpAny_bind (wpAny_mkInt (wpAny_pure ⟨_, rfl, hq _ _⟩))

theorem ba_write {M : Model} {f : Array UInt8 → Array UInt8} {Q : Unit → Shared → Prop} (h : s.heap.get? a = some (baObj b)) (hz : (f b).size ≤ sizeLine)
    (hq : ∀ h', h'.get? a = some (baObj (f b)) → Heap.SameBut a s.heap h' → Q () { s with heap := h' }) : wpAny M A (Bytes.write (.ref a) f) Q E s := by
  show wpAny M A (updateBytearray a f) Q E s
  unfold updateBytearray
  refine wpAny_bind (wpAny_load h ?_)
  show wpAny _ _ (update a (Obj.mapBytearray f) >>= fun _ => lookBehind a) _ _ _
  refine wpAny_bind (wpAny_update h ?_)
  have h2 : (s.heap.update a (Obj.mapBytearray f)).get? a = some (baObj (f b)) := Heap.get?_update_self (Obj.mapBytearray f) h rfl
  refine wpAny_lookBehind h2 ?_ (hq _ h2 (Heap.SameBut.update ..))
  show (if (f b).size > sizeLine then some "bytearray:memory" else none) = none
  rw [if_neg (Nat.not_lt.mpr hz)]

theorem ba_subscript {M : Model} {k : Int} {t : Tok} {Q : Option Int → Shared → Prop} (h0 : 0 ≤ k) (h1 : k < 2 ^ 63) (hq : Q (some k) s) : wpAny M A (Bytes.subscript? (.int k t)) Q E s := by
  unfold Bytes.subscript?
  refine wpAny_bind (wpAny_specialOf (typeIs_int s k t) F.slot_int_index.lookup ?_)
  show wpAny M A (if (!Bytes.fitsIndex k) = true then _ else pure (some k)) _ E s
  rw [if_neg (by simp [Bytes.fitsIndex]; omega)]
  exact wpAny_pure hq

theorem ba_setInt {k x : Int} {t u : Tok} {Q : Unit → Shared → Prop} (h : s.heap.get? a = some (baObj b)) (h0 : 0 ≤ k) (h1 : k < b.size) (hz : b.size ≤ 16777216) (hx0 : 0 ≤ x) (hx1 : x < 256)
    (hq : ∀ h', h'.get? a = some (baObj (b.setIfInBounds k.toNat x.toNat.toUInt8)) → Heap.SameBut a s.heap h' → Q () { s with heap := h' }) :
    wpAny (model prog w) A (setItem (.ref a) (.int k t) (.int x u)) Q E s := by
  have hT : s.TypeIs (.ref a) "bytearray" := ba_typeIs h
  unfold setItem
  refine wpAny_holding ?_
  refine wpAny_bind (wpAny_sequenceKey hT (by decide) ?_)
  refine wpAny_bind (wpAny_callSpecial?_slot (name := PySem.Str.ofString "__setitem__") hT ba_slot_setitem
    (wpAny_call_entry ba_slot_setitem hT ba_entry_setitem ?_ (ba_args_setitem _ _ _)))
  show wpAny _ _ (Bytes.subscript? (.int k t) >>= _) _ _ s
  refine wpAny_bind (ba_subscript h0 (by omega) ?_)
  show wpAny _ _ (Bytes.byteValue (.int x u) >>= _) _ _ s
  refine wpAny_bind ?_
  unfold Bytes.byteValue
  refine wpAny_bind (wpAny_of_eq (a := x) rfl ?_)
  show wpAny _ _ (if (decide (x < 0) || decide (x ≥ 256)) = true then _ else pure x.toNat.toUInt8) _ _ s
  rw [if_neg (by simp; omega)]
  refine wpAny_pure ?_
  show wpAny _ _ (Bytes.payload (.ref a) >>= _) _ _ s
  refine wpAny_bind (ba_payload h ?_)
  have hs : seqIndex? k b.size = some k.toNat := by
    have hn : ¬ k < 0 := by omega
    simp [seqIndex?, hn, h0, h1]
  rw [hs]
  refine wpAny_bind (ba_write h (by rw [Array.size_setIfInBounds, sizeLine_eq]; exact hz) fun h' hh hs => ?_)
  exact wpAny_pure ⟨.none, rfl, wpAny_pure (hq h' hh hs)⟩

def IsBaIter (h : Heap) (I a : Addr) (i : Nat) : Prop := ∃ o, h.get? I = some o ∧ o.cls = .type "bytearray_iterator" ∧ o.data = .fields #[.ref a, .int i 0]
theorem bai_typeIs {I : Addr} {i : Nat} (y : IsBaIter s.heap I a i) : s.TypeIs (.ref I) "bytearray_iterator" := let ⟨o, ho, hc, _⟩ := y; ⟨o, ho, hc⟩

theorem ba_pyIter {Q : Value → Shared → Prop} (h : s.heap.get? a = some (baObj b))
    (hQ : Q (.ref s.heap.objs.size) { s with heap := s.heap.push { cls := .type "bytearray_iterator", data := .fields #[.ref a, .int 0 0] } }) : wpAny (model prog w) A (pyIter (.ref a)) Q E s := by
  refine wpAny_pyIter_slot (ba_typeIs h) ba_slot_iter (wpAny_call_entry ba_slot_iter (ba_typeIs h) ba_entry_iter ?_ (ba_args_iter _))
  show wpAny _ _ (do ret (← newFields "bytearray_iterator" [.ref a, rawInt 0])) _ _ s
  exact wpAny_bind (wpAny_newObj_type (wpAny_pure ⟨_, rfl, "bytearray_iterator", _, ⟨_, Heap.get?_push_size _ rfl, rfl⟩, bai_slot_next.lookup, hQ⟩))
theorem bai_pyIter {I : Addr} {i : Nat} {Q : Value → Shared → Prop} (y : IsBaIter s.heap I a i) (h : Q (.ref I) s) : wpAny (model prog w) A (pyIter (.ref I)) Q E s := by
  refine wpAny_pyIter_slot (bai_typeIs y) bai_slot_iter (wpAny_call_entry bai_slot_iter (bai_typeIs y) bai_entry_iter ?_ (bai_args_iter _))
  show wpAny _ _ (ret (.ref I)) _ _ s
  exact wpAny_pure ⟨_, rfl, "bytearray_iterator", _, bai_typeIs y, bai_slot_next.lookup, h⟩

theorem bai_next {I : Addr} {i : Nat} {c : UInt8} {Q : Option Value → Shared → Prop} (y : IsBaIter s.heap I a i) (h : s.heap.get? a = some (baObj b)) (hx : b[i]? = some c)
    (hQ : ∀ h', IsBaIter h' I a (i + 1) → Heap.SameBut I s.heap h' → Q (some (.int (c.toNat : Int) s.toks)) { s with heap := h', toks := s.toks + 1 }) : wpAny (model prog w) A (pyNext (.ref I)) Q E s := by
  obtain ⟨o, ho, hc, hd⟩ := id y
  unfold pyNext
  refine wpAny_bind (wpAny_attempt (wpAny_callSpecial?_slot (name := PySem.Str.ofString "__next__") (bai_typeIs y) bai_slot_next
    (wpAny_call_entry bai_slot_next (bai_typeIs y) bai_entry_next ?_ (bai_args_next _))))
  show wpAny _ _ (field (.ref I) 0 >>= _) _ _ s
  refine wpAny_bind (wpAny_field ho hd (x := .ref a) rfl ?_)
  show wpAny _ _ (load a >>= _) _ _ s
  refine wpAny_bind (wpAny_load h ?_)
  show wpAny _ _ (field (.ref I) 1 >>= _) _ _ s
  refine wpAny_bind (wpAny_field ho hd (x := .int i 0) rfl ?_)
  simp only [Int.toNat_natCast, hx]
  refine wpAny_bind (wpAny_setField ho hd (by simp) (wpAny_bind (wpAny_mkInt (wpAny_pure ⟨_, rfl, wpAny_pure (hQ _ ?_ (Heap.SameBut.update ..))⟩))))
  exact ⟨_, Heap.get?_update_self _ ho (Obj.isFreed_of_fields (Obj.data_mapFields hd _)), (Obj.cls_mapFields ..).trans hc, by
    rw [Obj.data_mapFields hd]; simp [rawInt]⟩

theorem bai_end {I : Addr} {i : Nat} {Q : Option Value → Shared → Prop} (hh : A.handled = none) (y : IsBaIter s.heap I a i) (h : s.heap.get? a = some (baObj b)) (hx : b[i]? = none)
    (hQ : ∀ h', Heap.ExtBut I s.heap h' → Q none { s with heap := h' }) : wpAny (model prog w) A (pyNext (.ref I)) Q E s := by
  obtain ⟨o, ho, hc, hd⟩ := id y
  unfold pyNext
  refine wpAny_bind (wpAny_attempt (wpAny_callSpecial?_slot (name := PySem.Str.ofString "__next__") (bai_typeIs y) bai_slot_next
    (wpAny_call_entry bai_slot_next (bai_typeIs y) bai_entry_next ?_ (bai_args_next _))))
  show wpAny _ _ (field (.ref I) 0 >>= _) _ _ s
  refine wpAny_bind (wpAny_field ho hd (x := .ref a) rfl ?_)
  show wpAny _ _ (load a >>= _) _ _ s
  refine wpAny_bind (wpAny_load h ?_)
  show wpAny _ _ (field (.ref I) 1 >>= _) _ _ s
  refine wpAny_bind (wpAny_field ho hd (x := .int i 0) rfl ?_)
  simp only [Int.toNat_natCast, hx]
  refine wpAny_bind (wpAny_rule (wpAny_bind (wpAny_setField ho hd (by simp) ?_)))
  refine wpAny_bind (wpAny_letGo ?_)
  show wpAny _ _ (newExc (.type "StopIteration") [] >>= _) _ _ _
  refine wpAny_bind ?_
  simp only [newExc, newTuple]
  refine wpAny_bind (wpAny_newObj_type ?_ (by size_fits))
  refine wpAny_bind (m := firstArgMember _ _) (wpAny_of_eq (a := Value.none) (by first | rfl | (simp only [firstArgMember]; rfl)) ?_)
  refine wpAny_newObj_type ?_ (by size_fits)
  simp only [raiseNew]
  refine wpAny_bind (wpAny_handled ?_)
  rw [show A.in1.handled = none from hh]
  refine wpAny_bind (wpAny_pure (wpAny_throw ?_))
  refine wpAny_bind (wpAny_isInstance (T := "StopIteration") (b := true) ⟨_, Heap.get?_push_size _ rfl, rfl⟩ isSubtype_stop ?_)
  exact wpAny_pure (hQ _ (((Heap.SameBut.update ..).extBut.push _).push _))
end

/-- the walk over a bytearray that stands -/
theorem ba_walks {prog : Program} {w : World} {A : Around} (hh : A.handled = none) (I a : Addr) (hne : a ≠ I) (b : Array UInt8) :
    Walks prog w A I [I, a] [I] b.size (fun i v => ∃ c u, b[i]? = some c ∧ v = .int (c.toNat : Int) u) (fun i h => IsBaIter h I a i ∧ h.get? a = some (baObj b)) where
  sub := fun b hb => by simp at hb; simp [hb]
  frame := fun _ _ _ st hk => ⟨let ⟨o, ho, r⟩ := st.1; ⟨o, hk I (by simp) o ho, r⟩, hk a (by simp) _ st.2⟩
  item := fun i s Q E hi st hQ => by
    refine bai_next st.1 st.2 (c := b[i]) (by simp [hi]) fun h' hit' hs' => ?_
    exact hQ _ h' (s.toks + 1) ⟨_, _, by simp [hi], rfl⟩ ⟨hit', hs'.extBut a _ hne st.2⟩ fun b o hb e => hs'.extBut b o (fun h => hb (by simp [h])) e
  done := fun s Q E st hQ => bai_end hh st.1 st.2 (by simp) fun h' he' => hQ h' s.toks fun b o hb e => he' b o (fun h => hb (by simp [h])) e
  self := fun _ _ _ _ st hQ => bai_pyIter st.1 hQ
end Mine

namespace Mine
open Builtin
set_option maxRecDepth 100000

section
variable {prog : Program} {w : World} {A : Around} {E : Value → Shared → Prop} {s : Shared} {a sl : Addr} {b : Array UInt8} {lo hi : Int} {t u : Tok}

theorem ba_sliceParts {Q : Value × Value × Value → Shared → Prop} (h : s.heap.IsSliceOf sl (.int lo t) (.int hi u) .none) (hq : Q (rawInt lo, rawInt hi, .none) s) :
    wpAny (model prog w) A (Bytes.sliceParts (.ref sl)) Q E s := by
  obtain ⟨o, ho, hc, hd⟩ := h
  unfold Bytes.sliceParts
  refine wpAny_bind (wpAny_field (x := .none) ho hd rfl ?_)
  kby_none
  refine wpAny_ite (KBy.ite_no (show ¬ ((Value.none == rawInt 0) = true) from Bool.false_ne_true) ?_)
  refine wpAny_bind (wpAny_field (x := .int lo t) ho hd rfl ?_)
  kby_int
  refine wpAny_bind (wpAny_field (x := .int hi u) ho hd rfl ?_)
  kby_int
  exact wpAny_pure hq

theorem sliced_run (b : Array UInt8) (i n : Nat) : Bytes.sliced b (i : Int) ((i + n : Nat) : Int) 1 = ((b.toList.drop i).take n).toArray := by
  unfold Bytes.sliced
  rw [sliceRange_one, pick_run]
  have e : i + n - i = n := by omega
  rw [e]

theorem ba_getSlice {Q : Value → Shared → Prop} (h : s.heap.get? a = some (baObj b)) (hs : s.heap.IsSliceOf sl (.int lo t) (.int hi u) .none) (h0 : 0 ≤ lo) (h1 : lo ≤ hi) (h2 : hi ≤ b.size) (hz : b.size ≤ 16777216)
    (hq : Q (.ref s.heap.objs.size) { s with heap := s.heap.push (baObj ((b.toList.drop lo.toNat).take (hi - lo).toNat).toArray) }) : wpAny (model prog w) A (getItem (.ref a) (.ref sl)) Q E s := by
  have hT : s.TypeIs (.ref a) "bytearray" := ba_typeIs h
  have hTs : s.TypeIs (.ref sl) "slice" := let ⟨o, ho, hc, _⟩ := hs; ⟨o, ho, hc⟩
  refine wpAny_getItem_slot hT (by decide) ba_slot_getitem (wpAny_call_entry ba_slot_getitem hT ba_entry_getitem ?_ (ba_args_getitem _ _))
  show wpAny _ _ (Bytes.subscript? (.ref sl) >>= _) _ _ s
  refine wpAny_bind ?_
  unfold Bytes.subscript?
  refine wpAny_bind (wpAny_specialOf hTs slice_no_index (wpAny_pure ?_))
  refine wpAny_bind (wpAny_typeOf hTs ?_)
  show wpAny _ _ (Bytes.sliceParts (.ref sl) >>= _) _ _ s
  refine wpAny_bind (ba_sliceParts hs ?_)
  show wpAny _ _ (Bytes.payload (.ref a) >>= _) _ _ s
  refine wpAny_bind (ba_payload h ?_)
  have eb : sliceBounds (some lo) (some hi) none b.size = (((lo.toNat : Nat) : Int), ((lo.toNat + (hi - lo).toNat : Nat) : Int), 1) := by
    have e1 : lo = ((lo.toNat : Nat) : Int) := by omega
    have e2 : hi = ((hi.toNat : Nat) : Int) := by omega
    rw [sliceBounds_plain]
    simp only [Option.elim]
    rw [e1, e2, clipAt_nat, clipAt_nat]
    have e3 : min lo.toNat b.size = lo.toNat := by omega
    have e4 : min hi.toNat b.size = hi.toNat := by omega
    rw [e3, e4]
    have e5 : hi.toNat = lo.toNat + (hi - lo).toNat := by omega
    simp only [Int.toNat_natCast]
    rw [← e1, ← e2, ← e5, Int.toNat_of_nonneg (Int.le_trans h0 h1)]
  refine wpAny_bind (wpAny_of_eq (sliceIndices_raw (some lo) (some hi) none b.size (fun e => nomatch e)) ?_)
  rw [eb]
  dsimp only
  rw [sliced_run b _ _]
  refine wpAny_bind ?_
  unfold Bytes.newBytearray
  refine wpAny_newObj_type (wpAny_pure ⟨_, rfl, hq⟩) ?_
  show (((b.toList.drop lo.toNat).take (hi - lo).toNat).toArray).size ≤ sizeLine
  rw [List.size_toArray, List.length_take, List.length_drop, Array.length_toList, sizeLine_eq]
  omega
end
end Mine

namespace Mine
open Builtin
set_option maxRecDepth 100000

def In256 (ns : List Int) : Prop := ∀ n ∈ ns, 0 ≤ n ∧ n < 256

/-- what a bytearray may be made of here -/
inductive BaSrc (h : Heap) : Value → Array UInt8 → Prop where
  | list {l : Addr} {vs : List Value} {ns : List Int} : h.IsList l vs.toArray → IntsAre vs ns → In256 ns → BaSrc h (.ref l) (byteArr ns)
  | ba {a : Addr} {b : Array UInt8} : h.get? a = some (baObj b) → BaSrc h (.ref a) b
  | bytes {b : Array UInt8} {t : Tok} : BaSrc h (.bytes b t) b
theorem BaSrc.keeps {h h' : Heap} {v : Value} {b : Array UInt8} (x : BaSrc h v b) (k : ∀ a o, h.get? a = some o → h'.get? a = some o) : BaSrc h' v b := by
  cases x with
  | list hl hi hr => exact .list (hl.at fun o e => k _ o e) hi hr
  | ba e => exact .ba (k _ _ e)
  | bytes => exact .bytes
/-- kept by what writes another object alone -/
theorem BaSrc.same {h h' : Heap} {S : Addr} {v : Value} {b : Array UInt8} (x : BaSrc h v b) (hne : v ≠ .ref S) (k : Heap.SameBut S h h') : BaSrc h' v b := by
  cases x with
  | list hl hi hr => exact .list (hl.extBut k.extBut fun e => hne (by rw [e])) hi hr
  | ba e => exact .ba (k.extBut _ _ (fun e => hne (by rw [e])) e)
  | bytes => exact .bytes

theorem take_ints {f : Value → Bool} (hf : ∀ i t, 0 ≤ i → i < 256 → f (.int i t) = true) : ∀ {vs : List Value} {ns : List Int}, IntsAre vs ns → In256 ns → vs.takeWhile f = vs
  | _, _, .nil, _ => rfl
  | _, _, .cons i t h, hr => by
    have h1 := hr i (List.mem_cons_self ..)
    rw [List.takeWhile_cons_of_pos (hf i t h1.1 h1.2), take_ints hf h fun n hn => hr n (List.mem_cons_of_mem _ hn)]
theorem pick_ints {g : Value → Option UInt8} (hg : ∀ i t, g (.int i t) = some i.toNat.toUInt8) : ∀ {vs : List Value} {ns : List Int}, IntsAre vs ns → vs.filterMap g = ns.map fun n => n.toNat.toUInt8
  | _, _, .nil => rfl
  | _, _, .cons i t h => by
    rw [List.filterMap_cons_some (hg i t), pick_ints hg h]
    rfl

section
variable {prog : Program} {w : World} {A : Around} {E : Value → Shared → Prop} {s : Shared} {S : Addr} {b : Array UInt8} {src : Value}

theorem ba_slotIsOwn {a : Addr} {Q : Bool → Shared → Prop} {M : Model} (h : s.heap.get? a = some (baObj b)) (hq : Q true s) : wpAny M A (Bytes.slotIsOwn (.ref a) "__release_buffer__") Q E s := by
  unfold Bytes.slotIsOwn
  refine wpAny_bind (wpAny_specialOf (ba_typeIs h) ba_look_release ?_)
  dsimp only
  rw [if_neg (by decide +kernel), show ("bytearray.__release_buffer__".dropRight ("__release_buffer__".length + 1)) = "bytearray" by decide +kernel]
  exact wpAny_isInstance (ba_typeIs h) ba_sub hq
theorem ba_slotIsOwnB {a : Addr} {Q : Bool → Shared → Prop} {M : Model} (h : s.heap.get? a = some (baObj b)) (hq : Q true s) : wpAny M A (Bytes.slotIsOwn (.ref a) "__buffer__") Q E s := by
  unfold Bytes.slotIsOwn
  refine wpAny_bind (wpAny_specialOf (ba_typeIs h) ba_look_buffer ?_)
  dsimp only
  rw [if_neg (by decide +kernel), show ("bytearray.__buffer__".dropRight ("__buffer__".length + 1)) = "bytearray" by decide +kernel]
  exact wpAny_isInstance (ba_typeIs h) ba_sub hq
theorem ba_ownRelease {a : Addr} {Q : Bool → Shared → Prop} {M : Model} (h : s.heap.get? a = some (baObj b)) (hq : Q false s) : wpAny M A (Bytes.ownRelease (.ref a)) Q E s := by
  unfold Bytes.ownRelease
  exact wpAny_bind (ba_slotIsOwn h (wpAny_pure hq))
theorem ba_buffer {a : Addr} {id : String} {full : Bool} {Q : Option (Array UInt8) → Shared → Prop} {M : Model} (h : s.heap.get? a = some (baObj b)) (hq : Q (some b) s) : wpAny M A (Bytes.buffer? id (.ref a) full) Q E s := by
  unfold Bytes.buffer?
  refine wpAny_bind (wpAny_specialOf (ba_typeIs h) ba_look_buffer ?_)
  refine wpAny_bind (ba_slotIsOwnB h ?_)
  refine bm_if_false rfl ?_
  refine wpAny_bind (wpAny_specialOf (ba_typeIs h) ba_look_buffer ?_)
  refine wpAny_bind (ba_ownRelease h ?_)
  refine bm_if_false rfl ?_
  exact wpAny_bind (ba_payload h (wpAny_pure hq))

theorem src_asStr {Q : Option PySem.Str → Shared → Prop} {M : Model} (x : BaSrc s.heap src b) (hq : Q none s) : wpAny M A (asStr? src) Q E s := by
  cases x with
  | list hl hi hr =>
    obtain ⟨o, ho, hc, n, hd⟩ := hl
    show wpAny _ _ (load _ >>= _) _ _ _
    refine wpAny_bind (wpAny_load ho ?_)
    rw [hd]
    exact wpAny_pure hq
  | ba e =>
    show wpAny _ _ (load _ >>= _) _ _ _
    exact wpAny_bind (wpAny_load e (wpAny_pure hq))
  | bytes => exact wpAny_bind (wpAny_of_eq (a := ()) rfl (wpAny_pure hq))
theorem src_index {Q : Option Value → Shared → Prop} {M : Model} (x : BaSrc s.heap src b) (hq : Q none s) : wpAny M A (specialOf src "__index__") Q E s := by
  cases x with
  | list hl hi hr => exact wpAny_specialOf hl.typeIs F.bm_no_index hq
  | ba e => exact wpAny_specialOf (ba_typeIs e) ba_no_index hq
  | bytes => exact wpAny_specialOf (typeIs_bytes _ _ _) by_no_index hq

theorem ba_bind (v : Value) : Bytes.bindOptional "bytearray.__init__" "bytearray" ["source", "encoding", "errors"] [v] [] = pure [some v, none, none] := by kernel_rfl

theorem ba_init {Q : Fin → Shared → Prop} (hS : s.heap.get? S = some (baObj #[])) (hg : A.guards = some []) (x : BaSrc s.heap src b) (hne : src ≠ .ref S) (hz : b.size ≤ sizeLine)
    (hq : ∀ h', h'.get? S = some (baObj b) → Heap.SameBut S s.heap h' → Q (.done (.ret .none)) { s with heap := h' }) :
    wpC (model prog w) A (Builtin.«bytearray.__init__» ⟨[.ref S, src], []⟩) Q E s := by
  unfold Builtin.«bytearray.__init__»
  refine wpC_bindA (ba_ownRelease hS ?_)
  refine wpC_ite ?_
  rw [if_neg Bool.false_ne_true]
  refine wpC_bindA (wpAny_of_eq (ba_bind _) ?_)
  refine wpC_bindA (wpAny_of_eq (a := ()) rfl ?_)
  refine wpC_bindA (wpAny_of_eq (a := ()) rfl ?_)
  refine wpC_bind ?_
  show wpC _ _ (orM (Bytes.exported (.ref S)) _) _ _ _
  unfold orM
  refine wpC_bind (wpC_exported hg (wpC_any ?_))
  show wpAny _ _ (Bytes.exportsOf (.ref S) >>= fun n => pure (decide (n > 0))) _ _ _
  refine wpAny_bind ?_
  show wpAny _ _ (load S >>= _) _ _ _
  refine wpAny_bind (wpAny_load hS (wpAny_pure (wpAny_pure (wpC_any ?_))))
  refine bm_if_false rfl ?_
  refine wpAny_bind (ba_write hS (Nat.zero_le _) fun h1 hS1 k1 => ?_)
  have x1 := x.same hne k1
  dsimp only
  refine wpAny_bind (src_asStr (s := { s with heap := h1 }) x1 ?_)
  refine bm_if_false rfl ?_
  refine wpAny_bind (bm_if_false rfl (bm_if_false rfl (wpAny_pure ?_)))
  refine wpAny_bind (src_index (s := { s with heap := h1 }) x1 ?_)
  refine bm_if_false rfl ?_
  have fin : ∀ c : Array UInt8, c = b → wpAny (model prog w) A (Bytes.write (.ref S) fun _ => c) (fun _ s' => wpAny (model prog w) A (ret .none) Q E s') E { s with heap := h1 } := fun c hc => by
    subst hc
    exact ba_write hS1 hz fun h2 hS2 k2 => wpAny_pure (hq h2 hS2 (k1.trans k2))
  cases x1 with
  | ba e =>
    refine wpAny_bind (ba_buffer e ?_)
    dsimp only
    exact wpAny_bind (wpAny_rule (wpAny_bind (fin _ rfl)))
  | bytes =>
    refine wpAny_bind (wpAny_of_eq KBy.buffer_eq ?_)
    dsimp only
    exact wpAny_bind (wpAny_rule (wpAny_bind (fin _ rfl)))
  | @list l vs ns hl hi hr =>
    obtain ⟨o, ho, hc, n, hd⟩ := id hl
    have hT : ({ s with heap := h1 } : Shared).TypeIs (.ref l) "list" := ⟨o, ho, hc⟩
    refine wpAny_bind ?_
    unfold Bytes.buffer?
    refine wpAny_bind (wpAny_specialOf hT F.bm_no_buffer ?_)
    refine wpAny_bind (wpAny_specialOf hT F.bm_no_buffer ?_)
    refine wpAny_pure ?_
    dsimp only
    refine wpAny_bind (wpAny_typeOf hT ?_)
    refine bm_if_true rfl ?_
    refine wpAny_bind (wpAny_seqItems ho hd ?_)
    dsimp only
    rw [take_ints ?hf hi hr]
    case hf => intro i t h0 h1; simp [h0, h1]
    rw [pick_ints ?hg hi]
    case hg => intro i t; rfl
    have hn : (vs.toArray)[vs.length]? = none := by simp
    rw [hn]
    dsimp only
    exact wpAny_bind (wpAny_rule (wpAny_bind (fin _ rfl)))

end
section
variable {prog : Program} {w : World} {A : Around} {E : Value → Shared → Prop} {s : Shared} {S : Addr} {b : Array UInt8} {src : Value}
set_option maxRecDepth 1000000 in
set_option maxHeartbeats 4000000 in
theorem owner_ba_new : ("bytearray.__new__".splitOn ".__new__").headD "" = "bytearray" := by simp +decide [String.splitOn, String.splitOnAux]

theorem ba_new (v : Value) {Q₁ : Value → Shared → Prop}
    (h : Q₁ (.ref s.heap.objs.size) { s with heap := s.heap.push (baObj #[]) }) :
    codeAny (model prog w) A (.call (.builtin "bytearray.__new__") ⟨[.type "bytearray", v], []⟩) (wants Q₁ E) s := by
  refine codeAny_of_tree ?_
  show wpAny _ A.in1 (do checkBuiltinCall "bytearray.__new__" ⟨[.type "bytearray", v], []⟩; again (.builtin "bytearray.__new__" ⟨[.type "bytearray", v], []⟩)) _ _ s
  refine wpAny_bind (wpAny_of_eq (ba_newCall v) (wpAny_pure ⟨plainId_quiet ba_plain_new _, codeAny_builtin_stack ba_entry_new rfl fun p st => ?_⟩))
  rw [Around.under_plainId ba_plain_new _]
  have hsub := ba_sub
  have hown := owner_ba_new
  obtain ⟨hp, g, d, tk, os⟩ := s
  simp only [hown]
  wp_walk
  exact h

/-- bytearray(src) makes a new object of src's octets -/
theorem ba_make {Q : Value → Shared → Prop} (hg : A.guards = some []) (x : BaSrc s.heap src b) (hz : b.size ≤ sizeLine)
    (hq : ∀ h', h'.get? s.heap.objs.size = some (baObj b) → (∀ a o, s.heap.get? a = some o → h'.get? a = some o) → Q (.ref s.heap.objs.size) { s with heap := h' }) :
    codeC (model prog w) A (.call (.type "bytearray") ⟨[src], []⟩) (wants Q E) s := by
  have hne : src ≠ .ref s.heap.objs.size := by
    rintro rfl
    cases x with
    | list hl _ _ => obtain ⟨o, ho, _⟩ := hl; exact absurd (Heap.lt_size ho) (Nat.lt_irrefl _)
    | ba e => exact absurd (Heap.lt_size e) (Nat.lt_irrefl _)
  refine codeC_tree rfl (wpC_pure ⟨Code.quiet_builtin _ (by decide +kernel), codeC_tree (by show Bytes.decodersThatHold.contains "type.__call__" = false; decide +kernel) ?_⟩)
  rw [Around.under_plain (weight_type_call_type "bytearray" [src] []) rfl, den_builtin F.entry_type_call]
  unfold Builtin.«type.__call__»
  refine wpC_if_false ba_called.notType ?_
  refine wpC_if_false ba_called.canCreate ?_
  refine wpC_bindA (wpAny_of_eq (ba_typeCall src) ?_)
  refine wpC_bindA (wpAny_of_eq ba_mro ?_)
  refine wpC_if_false rfl ?_
  refine wpC_bindA (wpAny_of_eq ba_called.made ?_)
  dsimp only
  refine wpC_bindA (wpAny_pure ?_)
  refine wpC_bindA (wpAny_holding (wpAny_call (ba_new src ?_)))
  have hS : (s.heap.push (baObj #[])).get? s.heap.objs.size = some (baObj #[]) := Heap.get?_push_size _ rfl
  have hT : ({ s with heap := s.heap.push (baObj #[]) } : Shared).TypeIs (.ref s.heap.objs.size) "bytearray" := ⟨_, hS, rfl⟩
  have keep : ∀ a o, s.heap.get? a = some o → (s.heap.push (baObj #[])).get? a = some o := fun a o e => Heap.get?_push_of_some _ e
  refine wpC_bindA (wpAny_isInstance hT ba_sub ?_)
  refine wpC_if_false rfl ?_
  refine wpC_bind (wpC_holding (wpC_callSpecial hT ba_slot_init (wpC_call (codeC_builtin (by show Bytes.decodersThatHold.contains "bytearray.__init__" = false; decide +kernel) ba_slot_init.plain ba_entry_init
    (ba_slot_init.check _ _ _ _ _ _ _ _ hT (ba_args_init _ _) (ba_init (s := { s with heap := s.heap.push (baObj #[]) }) hS hg (x.keeps keep) hne hz fun h' hS' k' => ?_))))))
  dsimp only
  refine wpC_if_false rfl ?_
  exact wpC_pure (hq h' hS' fun a o e => k'.extBut a o (Nat.ne_of_lt (Heap.lt_size e)) (keep a o e))
end
end Mine

namespace Mine
open Builtin
set_option maxRecDepth 100000

section
variable {prog : Program} {w : World} {A : Around} {E : Value → Shared → Prop} {s : Shared} {a sl l : Addr} {b : Array UInt8} {lo hi : Int} {t u : Tok} {vs : List Value} {ns : List Int}

theorem slice_bounds (b : Array UInt8) {lo hi : Int} (h0 : 0 ≤ lo) (h1 : lo ≤ hi) (h2 : hi ≤ b.size) : sliceBounds (some lo) (some hi) none b.size = (lo, hi, 1) := by
  have e1 : lo = ((lo.toNat : Nat) : Int) := by omega
  have e2 : hi = ((hi.toNat : Nat) : Int) := by omega
  rw [sliceBounds_plain]
  simp only [Option.elim]
  rw [e1, e2, clipAt_nat, clipAt_nat]
  have e3 : min lo.toNat b.size = lo.toNat := by omega
  have e4 : min hi.toNat b.size = hi.toNat := by omega
  rw [e3, e4]

theorem ba_setSlice {Q : Unit → Shared → Prop} (hg : A.guards = some []) (h : s.heap.get? a = some (baObj b)) (hs : s.heap.IsSliceOf sl (.int lo t) (.int hi u) .none)
    (hl : s.heap.IsList l vs.toArray) (hi' : IntsAre vs ns) (hr : In256 ns) (hn : (ns.length : Int) = hi - lo) (h0 : 0 ≤ lo) (h1 : lo ≤ hi) (h2 : hi ≤ b.size) (hz : b.size ≤ 16777216)
    (hq : ∀ h', h'.get? a = some (baObj (b.extract 0 lo.toNat ++ byteArr ns ++ b.extract hi.toNat b.size)) → (∀ c o, c ≠ a → s.heap.get? c = some o → h'.get? c = some o) → Q () { s with heap := h' }) :
    wpC (model prog w) A (setItem (.ref a) (.ref sl) (.ref l)) Q E s := by
  have hT : s.TypeIs (.ref a) "bytearray" := ba_typeIs h
  have hTl : s.TypeIs (.ref l) "list" := hl.typeIs
  have hTs : s.TypeIs (.ref sl) "slice" := let ⟨o, ho, hc, _⟩ := hs; ⟨o, ho, hc⟩
  obtain ⟨ol, hol, holc, nl, hold⟩ := id hl
  have hla : l ≠ a := fun e => by subst e; rw [h] at hol; cases hol; cases hold
  unfold setItem
  refine wpC_holding ?_
  refine wpC_bindA (wpAny_sequenceKey hT (by decide) ?_)
  refine wpC_bind (wpC_callSpecial hT ba_slot_setitem (wpC_call (codeC_builtin (by show Bytes.decodersThatHold.contains "bytearray.__setitem__" = false; decide +kernel) ba_slot_setitem.plain ba_entry_setitem
    (ba_slot_setitem.check _ _ _ _ _ _ _ _ hT (ba_args_setitem _ _ _) ?_))))
  unfold Builtin.«bytearray.__setitem__»
  refine wpC_if_false rfl ?_
  dsimp only
  refine wpC_bindA ?_
  unfold Bytes.subscript?
  refine wpAny_bind (wpAny_specialOf hTs slice_no_index (wpAny_pure ?_))
  dsimp only
  refine wpC_bindA (wpAny_typeOf hTs ?_)
  refine wpC_if_false rfl ?_
  refine wpC_bindA (ba_sliceParts hs ?_)
  have hsr : Bytes.sameRef (.ref a) (.ref l) = false := by
    show (a == l) = false
    exact beq_eq_false_iff_ne.mpr (Ne.symm hla)
  refine wpC_if_false hsr ?_
  dsimp only
  refine wpC_bindA (wpAny_isInstance hTl li_no_ba ?_)
  refine wpC_if_true rfl ?_
  refine wpC_bindA ?_
  unfold orM
  refine wpAny_bind (wpAny_bind (wpAny_specialOf hTl F.bm_no_index (wpAny_pure ?_)))
  show wpAny _ _ (orM _ _) _ _ _
  unfold orM
  refine wpAny_bind (wpAny_bind (wpAny_specialOf hTl li_no_int (wpAny_pure ?_)))
  show wpAny _ _ (orM _ _) _ _ _
  unfold orM
  refine wpAny_bind (wpAny_bind (wpAny_specialOf hTl li_no_float (wpAny_pure ?_)))
  show wpAny _ _ (isInstance (.ref l) (.type "complex")) _ _ _
  refine wpAny_isInstance hTl li_no_complex ?_
  refine wpC_bindA (src_asStr (.list hl hi' hr) ?_)
  refine wpC_if_false rfl ?_
  refine wpC_bindA (wpAny_rule ?_)
  have hbs : (byteArr ns).size ≤ sizeLine := by rw [byteArr_size, sizeLine_eq]; omega
  refine wpC_bind (wpC_call (ba_make hg (.list hl hi' hr) hbs fun h1' hD k1 => ?_))
  refine wpC_bindA (wpAny_holding (ba_sliceParts (s := { s with heap := h1' }) (let ⟨o, ho, r⟩ := hs; ⟨o, k1 _ _ ho, r⟩) ?_))
  refine wpC_bindA (ba_payload hD ?_)
  have ha1 : h1'.get? a = some (baObj b) := k1 _ _ h
  refine wpC_bindA (ba_payload ha1 ?_)
  refine wpC_bindA (wpAny_of_eq (sliceIndices_raw (some lo) (some hi) none b.size (fun e => nomatch e)) ?_)
  rw [slice_bounds b h0 h1 h2]
  dsimp only
  refine wpC_if_true rfl ?_
  refine wpC_bindA (wpAny_rule ?_)
  have em : max lo hi = hi := by omega
  rw [em]
  have ens : (((byteArr ns).size : Int) != hi - lo) = false := by rw [byteArr_size, hn]; simp
  refine wpC_if_false ens ?_
  refine wpC_any (wpAny_bind (ba_write ha1 ?_ fun h2' ha2 k2 => wpAny_pure ?_))
  · rw [sizeLine_eq]
    simp only [Array.size_append, Array.size_extract, byteArr_size]
    omega
  · exact wpC_pure (hq h2' ha2 fun c o hc e => k2.extBut c o hc (k1 c o e))
end
end Mine

namespace Mine
open Builtin
set_option maxRecDepth 100000

theorem items_ints {b : Array UInt8} {acc : Array Value} (h : ItemsOf (fun i v => ∃ c u, b[i]? = some c ∧ v = .int (c.toNat : Int) u) acc b.size) : IntsAre acc.toList (KBw.bInts b) := by
  have key : ∀ (l : List UInt8) (vs : List Value), vs.length = l.length → (∀ (j : Nat) (v : Value), vs[j]? = some v → ∃ c u, l[j]? = some c ∧ v = .int (c.toNat : Int) u) → IntsAre vs (l.map fun c => (c.toNat : Int)) := by
    intro l
    induction l with
    | nil =>
      intro vs e _
      rw [List.length_nil] at e
      rw [List.length_eq_zero_iff.mp e]
      exact .nil
    | cons c l ih =>
      intro vs e hv
      cases vs with
      | nil => cases e
      | cons v vs =>
        obtain ⟨c', u, hc, rfl⟩ := hv 0 v rfl
        have hc' : c = c' := Option.some.inj hc
        subst hc'
        exact .cons _ _ (ih vs (Nat.succ.inj e) fun j v hj => hv (j + 1) v hj)
  refine key b.toList acc.toList (by rw [Array.length_toList, Array.length_toList]; exact h.1) fun j v hj => ?_
  obtain ⟨c, u, hc, e⟩ := h.2 j v (by rw [← Array.getElem?_toList]; exact hj)
  exact ⟨c, u, by rw [Array.getElem?_toList]; exact hc, e⟩

section
variable {prog : Program} {w : World} {A : Around} {E : Value → Shared → Prop} {s : Shared} {a : Addr} {b : Array UInt8}

theorem ba_extend {R : Result → Shared → Prop} (hh : A.handled = none) (ha : s.heap.get? a = some (baObj b)) (S : Addr) (res : Value) (c₀ : Nat) (hS : s.heap.get? S = some { cls := .type "list", data := .seq #[] c₀ })
    (hR : ∀ h' tk acc' c', (∀ c o, c ≠ S → s.heap.get? c = some o → h'.get? c = some o) → h'.get? S = some { cls := .type "list", dict := none, data := .seq acc' c', slots := #[] } →
      IntsAre acc'.toList (KBw.bInts b) → R (.ok (.ret res)) { s with heap := h', toks := tk }) (hn : b.size ≤ sizeLine) :
    wpAny (model prog w) A.in1 (Builtin.List.listExtendWith (.ref S) (.ref a) res)
      (fun fin s' => match fin with | .done f => R (.ok f) s' | .again c' => c'.quiet = true ∧ codeAny (model prog w) A c' R s') (fun e s' => R (.error e) s') s := by
  have hT : s.TypeIs (.ref a) "bytearray" := ba_typeIs ha
  have hSa : S ≠ a := fun e => by subst e; rw [hS] at ha; simp at ha
  have hSI : S ≠ s.heap.objs.size := Nat.ne_of_lt (Heap.lt_size hS)
  have haI : a ≠ s.heap.objs.size := Nat.ne_of_lt (Heap.lt_size ha)
  have hSf : S ∉ [s.heap.objs.size, a] := fun hm => by
    rcases List.mem_cons.mp hm with e | hm
    · exact hSI e
    · exact hSa (List.mem_singleton.mp hm)
  unfold Builtin.List.listExtendWith
  refine wpAny_bind (wpAny_typeOf hT ?_)
  have h1 : Builtin.List.listSameRef (.ref S) (.ref a) = false := by simp [Builtin.List.listSameRef, hSa]
  have h2 : (Value.type "bytearray" == Value.type "list") = false := by decide
  have h3 : (Value.type "bytearray" == Value.type "tuple") = false := by decide
  simp only [h1, h2, h3, Bool.or_false, Bool.false_eq_true, if_false]
  refine wpAny_bind (ba_pyIter ha ?_)
  have ha1 : (s.heap.push { cls := .type "bytearray_iterator", data := .fields #[.ref a, .int 0 0] }).get? a = some (baObj b) := Heap.get?_push_of_some _ ha
  have hT1 : ({ s with heap := s.heap.push { cls := .type "bytearray_iterator", data := .fields #[.ref a, .int 0 0] } } : Shared).TypeIs (.ref a) "bytearray" := ⟨_, ha1, rfl⟩
  refine wpAny_bind (wpAny_holding ?_)
  unfold Builtin.List.listLengthHint
  refine wpAny_bind (wpAny_specialOf hT1 ba_slot_len.lookup ?_)
  dsimp only
  rw [show splitId "bytearray.__len__" = some ("bytearray", "__len__") by decide +kernel]
  dsimp only
  refine wpAny_bind (wpAny_isInstance hT1 ba_sub ?_)
  refine bm_if_false rfl ?_
  refine bm_if_true (by decide +kernel) ?_
  refine wpAny_bind (wpAny_typeOf hT1 ?_)
  refine wpAny_pure ?_
  refine bm_if_false (by decide) ?_
  have W := ba_walks (prog := prog) (w := w) (A := A.in1) hh s.heap.objs.size a haI b
  refine wpAny_pure ⟨plainId_quiet F.plain_extend_loop _, codeAny_extend_loopS W.toS hn _ hSf _ b.size 0 _ _ _ rfl (Nat.zero_le _) ⟨⟨_, Heap.get?_push_size _ rfl, rfl, rfl⟩, ha1⟩ (Heap.get?_push_of_some _ hS) (ItemsOf.nil _) fun s' acc' c' hm hS' hacc => ?_⟩
  rw [Moved.eq_with hm]
  refine hR s'.heap s'.toks acc' c' (fun c o hc e => hm.heap c o (fun hmem => ?_) (Heap.get?_push_of_some _ e)) hS' (items_ints hacc)
  rcases List.mem_cons.mp hmem with e' | hmem
  · exact hc e'
  · exact absurd (Heap.lt_size e) (by rw [List.mem_singleton.mp hmem]; exact Nat.lt_irrefl _)

/-- list(bytearray): a new list of its octets -/
theorem list_of_ba {Q : Value → Shared → Prop} (hh : A.handled = none) (ha : s.heap.get? a = some (baObj b)) (hn : b.size ≤ sizeLine)
    (hQ : ∀ h' tk vs c', (∀ c o, s.heap.get? c = some o → h'.get? c = some o) → h'.get? s.heap.objs.size = some (listOf (List.toArray vs) c') → IntsAre vs (KBw.bInts b) → Q (.ref s.heap.objs.size) { s with heap := h', toks := tk }) :
    wpAny (model prog w) A (call (.type "list") [.ref a]) Q E s := by
  refine callType_codes (Q₁ := fun obj s₁ => obj = .ref s.heap.objs.size ∧ s₁ = { s with heap := s.heap.push { cls := .type "list", data := .seq #[] } }) F.called_list (F.typeCall_list_1 _) F.entry_list_init
    (code_list_new _ ⟨rfl, rfl⟩) fun obj s₁ h₁ => ?_
  obtain ⟨rfl, rfl⟩ := h₁
  have hS : (s.heap.push { cls := .type "list", data := .seq #[] }).get? s.heap.objs.size = some { cls := .type "list", data := .seq #[] } := Heap.get?_push_size _ rfl
  have ha1 : (s.heap.push { cls := .type "list", data := .seq #[] }).get? a = some (baObj b) := Heap.get?_push_of_some _ ha
  refine ⟨⟨_, hS, rfl⟩, F.args_list_init_2 _ _, ?_⟩
  show wpAny _ _ (do let old ← Builtin.List.listItems (.ref s.heap.objs.size); Builtin.List.listUpdate (.ref s.heap.objs.size) (fun _ => #[]); letGo old.toList.reverse; Builtin.List.listExtendWith (.ref s.heap.objs.size) (.ref a) .none) _ _ _
  refine wpAny_bind ?_
  unfold Builtin.List.listItems
  refine wpAny_bind (wpAny_seqItems hS rfl (wpAny_pure ?_))
  show wpAny _ _ (updateSeq s.heap.objs.size (fun _ => #[]) >>= fun _ => letGo (#[] : Array Value).toList.reverse >>= fun _ => Builtin.List.listExtendWith (.ref s.heap.objs.size) (.ref a) .none) _ _ _
  refine wpAny_bind (wpAny_updateSeq hS rfl ?_)
  have hS₂ := Heap.get?_update_self (Obj.mapSeq (fun _ => (#[] : Array Value))) hS rfl
  have hne : s.heap.objs.size ≠ a := Ne.symm (Nat.ne_of_lt (Heap.lt_size ha))
  refine wpAny_bind (wpAny_letGo ?_)
  refine ba_extend (A := A.in1) hh ((Heap.get?_update_other _ _ hne).trans ha1) _ .none _ hS₂ (fun h' tk acc' c' hk hS' hacc => ?_) hn
  have e : acc' = acc'.toList.toArray := by rw [Array.toArray_toList]
  refine ⟨rfl, hQ h' tk acc'.toList c' (fun c o e => ?_) (by rw [hS', ← e]) hacc⟩
  have hb : c ≠ s.heap.objs.size := Nat.ne_of_lt (Heap.lt_size e)
  exact hk c o hb ((Heap.get?_update_other _ _ (Ne.symm hb)).trans (Heap.get?_push_of_some _ e))

/-- [v] * n -/
theorem list_times {l : Addr} {v : Value} {x : Int} {u : Tok} {n : Nat} {Q : Value → Shared → Prop} (hl : s.heap.get? l = some (listOf #[v] n)) (h0 : 0 ≤ x) (hx : x ≤ 1048576)
    (h : Q (.ref s.heap.objs.size) { s with heap := s.heap.push (listOf (List.replicate x.toNat v).toArray 0) }) : wpAny (model prog w) A (binaryOp .Mult (.ref l) (.int x u)) Q E s := by
  have e : List.foldl (fun x1 x2 => x1 ++ x2) #[] (List.replicate (if (#[v] : Array Value).isEmpty = true then 0 else x.toNat) #[v]) = (List.replicate x.toNat v).toArray := by
    have h1 := listMul_foldl_if #[v] x.toNat
    have h2 : ∀ k : Nat, (List.replicate k [v]).flatten = List.replicate k v := fun k => by
      induction k with
      | zero => rfl
      | succ k ih => rw [List.replicate_succ, List.flatten_cons, ih, List.replicate_succ]; rfl
    rw [h2] at h1
    exact h1
  refine wpAny_binaryOp_repeat_ref (T := "list") (U := "int") (by decide) ⟨_, hl, rfl⟩ (fun s' => typeIs_int s' x u) noFill_list_mul F.fills_int_mul F.slot_int_rmul repeat_list F.slot_int_index.lookup
    (call_meets F.slot_int_rmul (typeIs_int s x u) F.entry_int_rmul (F.args_int_rmul_2 _ _) (lm_int_rmul_list_any x u l #[v] n none #[])
      ⟨hl, rfl, ⟨_, hl, rfl⟩, call_meets F.slot_list_mul ⟨_, hl, rfl⟩ F.entry_list_mul (F.args_list_mul_2 _ _)
        (lm_list_mul_any l #[v] n none #[] x u (by simp [Builtin.List.listFitsIndex]; omega) (by simp; omega) (by simp [Builtin.List.listTooLong, sizeLine]; omega))
        ⟨hl, ?_⟩⟩)
  rw [e]
  exact h
end

/-! ## the loop over a bytearray -/
section
variable {prog : Program} {w : World} {A : Around} {E : Value → Shared → Prop} {s : Shared} {env : Env} {h₀ : Heap} {x : PySem.Str} {body : List Stmt} {Q : Flow → Shared → Prop} {a : Addr} {b : Array UInt8} {m₀ : PySem.Str → Option Value}

theorem iter_ba {news : List (Addr × Obj)} (J : Nat → (PySem.Str → Option Value) → List (Addr × Obj) → Prop)
    (hh : A.handled = none) (F : Fr h₀ env.locals s.heap m₀) (N : News h₀ env.locals s.heap news) (ha : s.heap.get? a = some (baObj b)) (haL : a ≠ env.locals) (haN : ∀ p ∈ news, p.1 ≠ a) (hj : J 0 m₀ news)
    (turn : ∀ i k t m₁ news₁ h tk own, (KBw.bInts b)[i]? = some k → 0 ≤ k → k < 256 → J i m₁ news₁ → Fr h₀ env.locals h (fun y => if y = x then some (.int k t) else m₁ y) → News h₀ env.locals h (news₁ ++ own) →
      wpAny (model prog w) A (execs body env) (InvPostN h₀ env.locals (J (i + 1)) own (news.map (·.1)) { s with heap := h, toks := tk } Q) E { s with heap := h, toks := tk })
    (done : ∀ m₁ news₁ h tk, J b.size m₁ news₁ → Fr h₀ env.locals h m₁ → News h₀ env.locals h news₁ → Q .next { s with heap := h, toks := tk }) :
    wpAny (model prog w) A (pyIter (.ref a)) (fun it s₂ => LoopAtV prog w A h₀ env x body Q E it s₂) E s := by
  refine ba_pyIter ha ?_
  have hne : a ≠ s.heap.objs.size := Nat.ne_of_lt (Heap.lt_size ha)
  have W := ba_walks (prog := prog) (w := w) hh s.heap.objs.size a hne b
  refine loop_invN J W ?_ ?_ ?_ ?_ ⟨⟨_, Heap.get?_push_size _ rfl, rfl, rfl⟩, Heap.get?_push_of_some _ ha⟩ (F.push _) (fun p hp => ⟨Heap.get?_push_of_some _ (N p hp).1, (N p hp).2⟩) hj ?_ done
  · intro hm
    rcases List.mem_cons.mp hm with e | hm
    · exact absurd F.ns.lt (e ▸ Nat.lt_irrefl _)
    · exact haL (List.mem_singleton.mp hm).symm
  · intro c hc
    rw [List.mem_singleton.mp hc]
    exact next_is_new F
  · intro p hp hI
    exact absurd (Heap.lt_size (N p hp).1) ((List.mem_singleton.mp hI) ▸ Nat.lt_irrefl _)
  · intro p hp hI
    rcases List.mem_cons.mp hI with e | hm
    · exact absurd (Heap.lt_size (N p hp).1) (e ▸ Nat.lt_irrefl _)
    · exact haN p hp (List.mem_singleton.mp hm)
  · rintro i v m₁ news₁ h tk own hi ⟨c, u, hc, rfl⟩ _ hoff hJ F₁ N₁
    have e := KBw.ints_get hc
    have hb := KBw.ints_in (b := b) (List.mem_of_getElem? e)
    exact turn i _ u m₁ news₁ h tk own e hb.1 hb.2 hJ F₁ N₁

/-- the loop over a list that is not of the ledger handed on -/
theorem iter_list {l : Addr} {vs : List Value} {ns : List Int} {news : List (Addr × Obj)} (J : Nat → (PySem.Str → Option Value) → List (Addr × Obj) → Prop)
    (hh : A.handled = none) (F : Fr h₀ env.locals s.heap m₀) (N : News h₀ env.locals s.heap news) (hl : s.heap.IsList l vs.toArray) (hi : IntsAre vs ns) (haL : l ≠ env.locals) (haN : ∀ p ∈ news, p.1 ≠ l) (hj : J 0 m₀ news)
    (turn : ∀ i k t m₁ news₁ h tk own, ns[i]? = some k → J i m₁ news₁ → OwnOff own (news.map (·.1)) → news₁.map (·.1) = news.map (·.1) → Fr h₀ env.locals h (fun y => if y = x then some (.int k t) else m₁ y) → News h₀ env.locals h (news₁ ++ own) →
      wpAny (model prog w) A (execs body env) (InvPostN h₀ env.locals (J (i + 1)) own (news.map (·.1)) { s with heap := h, toks := tk } Q) E { s with heap := h, toks := tk })
    (done : ∀ m₁ news₁ h tk, J ns.length m₁ news₁ → Fr h₀ env.locals h m₁ → News h₀ env.locals h news₁ → Q .next { s with heap := h, toks := tk }) :
    wpAny (model prog w) A (pyIter (.ref l)) (fun it s₂ => LoopAtV prog w A h₀ env x body Q E it s₂) E s := by
  obtain ⟨ol, hol, _⟩ := id hl
  have hne : l ≠ s.heap.objs.size := Nat.ne_of_lt (Heap.lt_size hol)
  refine wpAny_pyIter_list hl ?_
  have W := Walks.list (prog := prog) (w := w) hh s.heap.objs.size l hne vs.toArray
  have hlen : vs.toArray.size = ns.length := by simp [hi.length]
  rw [hlen] at W
  refine loop_invN J W ?_ ?_ ?_ ?_ ⟨⟨_, Heap.get?_push_size _ rfl, rfl, rfl⟩, hl.at fun o e => Heap.get?_push_of_some _ e⟩ (F.push _) (fun p hp => ⟨Heap.get?_push_of_some _ (N p hp).1, (N p hp).2⟩) hj ?_ done
  · intro hm
    rcases List.mem_cons.mp hm with e | hm
    · exact absurd F.ns.lt (e ▸ Nat.lt_irrefl _)
    · exact haL (List.mem_singleton.mp hm).symm
  · intro c hc
    rw [List.mem_singleton.mp hc]
    exact next_is_new F
  · intro p hp hI
    exact absurd (Heap.lt_size (N p hp).1) ((List.mem_singleton.mp hI) ▸ Nat.lt_irrefl _)
  · intro p hp hI
    rcases List.mem_cons.mp hI with e | hm
    · exact absurd (Heap.lt_size (N p hp).1) (e ▸ Nat.lt_irrefl _)
    · exact haN p hp (List.mem_singleton.mp hm)
  · intro i v m₁ news₁ h tk own hlt hP hadr hoff hJ F₁ N₁
    obtain ⟨t, hx⟩ := hi.get i ns[i] (by simp [hlt])
    have hv : v = .int ns[i] t := by
      have hP' : vs[i]? = some v := by simpa using hP
      rw [hx] at hP'; exact (Option.some.inj hP').symm
    subst hv
    exact turn i ns[i] t m₁ news₁ h tk own (by simp [hlt]) hJ hoff hadr F₁ N₁
end
end Mine

namespace Mine
open Builtin
set_option maxRecDepth 100000

/-! ## Expressions that leave the heap as it is -/
def IsI (i : Int) (v : Value) : Prop := ∃ t, v = .int i t

def Ev (prog : Program) (w : World) (A : Around) (env : Env) (H : Heap) (e : Expr) (V : Value → Prop) : Prop :=
  ∀ (E : Value → Shared → Prop) (Q : Value → Shared → Prop) (s : Shared), s.heap = H → (∀ v k, V v → Q v { s with toks := k }) → wpAny (model prog w) A (eval e env) Q E s
/-- a test -/
def Tst (prog : Program) (w : World) (A : Around) (env : Env) (H : Heap) (e : Expr) (b : Bool) : Prop :=
  ∀ (E : Value → Shared → Prop) (Q : Bool → Shared → Prop) (s : Shared), s.heap = H → (∀ k, Q b { s with toks := k }) → wpAny (model prog w) A (isTrue e env (eval e env)) Q E s

section
variable {prog : Program} {w : World} {A : Around} {env : Env} {H : Heap} {m mg mb : PySem.Str → Option Value} {a b i j : Int} {e l r : Expr} {pos p : Pos} {x : PySem.Str} {v : Value} {V : Value → Prop}

theorem Ev.val {E : Value → Shared → Prop} {Q : Value → Shared → Prop} {s : Shared} (h : Ev prog w A env s.heap e V) (hq : ∀ v k, V v → Q v { s with toks := k }) : wpAny (model prog w) A (eval e env) Q E s := h E Q s rfl hq
theorem Ev.weak {V' : Value → Prop} (h : Ev prog w A env H e V) (k : ∀ v, V v → V' v) : Ev prog w A env H e V' := fun E Q s hs hq => h E Q s hs fun v t hv => hq v t (k v hv)

theorem ev_local (hn : H.Ns env.locals m) (hv : m x = some v) (hk : env.scope.kind = .function := by rfl) (hl : env.kindOf x = some .local := by rfl) (hd : (x == ("__debug__" : PySem.Str)) = false := by decide) :
    Ev prog w A env H (.Name x pos) (· = v) := fun E Q s hs hq => wpAny_Name (wpAny_loadName_local hk hl (hs ▸ hn) hv (hq v s.toks rfl)) hd
theorem ev_int {t : Tok} (hn : H.Ns env.locals m) (hv : m x = some (.int i t)) (hk : env.scope.kind = .function := by rfl) (hl : env.kindOf x = some .local := by rfl) (hd : (x == ("__debug__" : PySem.Str)) = false := by decide) :
    Ev prog w A env H (.Name x pos) (IsI i) := (ev_local hn hv hk hl hd).weak fun _ e => ⟨t, e⟩
theorem ev_global (hg : H.Ns env.globals mg) (hv : mg x = some v) (hk : env.scope.kind = .function := by rfl) (hl : env.kindOf x = some .globalImplicit := by rfl) (hd : (x == ("__debug__" : PySem.Str)) = false := by decide) :
    Ev prog w A env H (.Name x pos) (· = v) := fun E Q s hs hq => Calls.Name_function_global hk hl (Calls.loadGlobal_global (hs ▸ hg) hv (hq v s.toks rfl)) hd
theorem ev_builtin (hg : H.Ns env.globals mg) (hm : mg x = none) (hb : H.Ns env.builtins mb) (hv : mb x = some v) (hk : env.scope.kind = .function := by rfl) (hl : env.kindOf x = some .globalImplicit := by rfl) (hd : (x == ("__debug__" : PySem.Str)) = false := by decide) :
    Ev prog w A env H (.Name x pos) (· = v) := fun E Q s hs hq => Calls.Name_function_global hk hl (Calls.loadGlobal_builtin (hs ▸ hg) hm (hs ▸ hb) hv (hq v s.toks rfl)) hd
theorem ev_const {k : Nat} : Ev prog w A env H (.Constant (.int i) k pos) (IsI i) := fun _ _ s _ hq => wpAny_Constant_int (hq _ _ ⟨_, rfl⟩)
theorem ev_bool {k : Nat} {c : Bool} : Ev prog w A env H (.Constant (.bool c) k pos) (· = .bool c) := fun _ _ s _ hq => wpAny_Constant_bool (hq _ s.toks rfl)

theorem ev_bin {op : Operator} (hl : Ev prog w A env H l (IsI a)) (hr : Ev prog w A env H r (IsI b))
    (ho : ∀ (E : Value → Shared → Prop) (Q : Value → Shared → Prop) (s : Shared) t u, (Q (.int i s.toks) { s with toks := s.toks + 1 }) → wpAny (model prog w) A (binaryOp op (.int a t) (.int b u)) Q E s) :
    Ev prog w A env H (.BinOp l op r pos) (IsI i) := fun E Q s hs hq => by
  refine wpAny_BinOp (hl _ _ s hs fun v k hv => hr _ _ { s with toks := k } hs fun u k' hu => ?_)
  obtain ⟨t, rfl⟩ := hv
  obtain ⟨u', rfl⟩ := hu
  exact ho _ _ _ _ _ (hq _ _ ⟨_, rfl⟩)
theorem ev_add (hl : Ev prog w A env H l (IsI a)) (hr : Ev prog w A env H r (IsI b)) : Ev prog w A env H (.BinOp l .Add r pos) (IsI (a + b)) := ev_bin hl hr fun _ _ _ _ _ h => P.add_int h
theorem ev_sub (hl : Ev prog w A env H l (IsI a)) (hr : Ev prog w A env H r (IsI b)) : Ev prog w A env H (.BinOp l .Sub r pos) (IsI (a - b)) := ev_bin hl hr fun _ _ _ _ _ h => P.sub_int h
theorem bits_small {a : Int} (h : a.natAbs < 2 ^ 64) : Builtin.Int.intBits a ≤ 64 := by
  unfold Builtin.Int.intBits
  split
  · exact Nat.zero_le _
  · rename_i h0
    have := (Nat.log2_lt (by simpa using h0)).mpr h
    omega
theorem ev_mul (hl : Ev prog w A env H l (IsI a)) (hr : Ev prog w A env H r (IsI b)) (hs : a.natAbs < 2 ^ 64) : Ev prog w A env H (.BinOp l .Mult r pos) (IsI (a * b)) :=
  ev_bin hl hr fun _ _ _ _ _ h => P.mul_int h (.of_left (bits_small hs))
theorem ev_mod (hl : Ev prog w A env H l (IsI a)) (hr : Ev prog w A env H r (IsI b)) (hb : b ≠ 0) : Ev prog w A env H (.BinOp l .Mod r pos) (IsI (a.fmod b)) := ev_bin hl hr fun _ _ _ _ _ h => mod_int' hb h
theorem ev_div (hl : Ev prog w A env H l (IsI a)) (hr : Ev prog w A env H r (IsI b)) (hb : b ≠ 0) (hs : b.natAbs < 1073741824) : Ev prog w A env H (.BinOp l .FloorDiv r pos) (IsI (a.fdiv b)) := ev_bin hl hr fun _ _ _ _ _ h => floordiv_int hb h (.inl (PyProof.noPylong_small hs))
theorem ev_and (hl : Ev prog w A env H l (IsI a)) (hr : Ev prog w A env H r (IsI b)) : Ev prog w A env H (.BinOp l .BitAnd r pos) (IsI (Builtin.bitAnd a b)) := ev_bin hl hr fun _ _ _ _ _ h => and_int h
theorem ev_or (hl : Ev prog w A env H l (IsI a)) (hr : Ev prog w A env H r (IsI b)) : Ev prog w A env H (.BinOp l .BitOr r pos) (IsI (Builtin.bitOr a b)) := ev_bin hl hr fun _ _ _ _ _ h => or_int h
theorem ev_shl (hl : Ev prog w A env H l (IsI a)) (hr : Ev prog w A env H r (IsI b)) (hb : 0 ≤ b) (hb' : b ≤ 64) (ha : a.natAbs < 2 ^ 64) : Ev prog w A env H (.BinOp l .LShift r pos) (IsI (a * 2 ^ b.toNat)) :=
  ev_bin hl hr fun _ _ _ _ _ h => lshift_int hb (by have := bits_small ha; omega) h

/-- an item of a list of ints -/
theorem ev_item {d : Addr} {vs : List Value} {ns : List Int} (hl : H.IsList d vs.toArray) (hi : IntsAre vs ns) (ho : Ev prog w A env H l (· = .ref d)) (hr : Ev prog w A env H r (IsI i)) (h0 : 0 ≤ i) (h1 : i < ns.length) (hf : (ns.length : Int) ≤ 1048576)
    (hs : ∀ u, subscripted r false (.ref d) (.int i u) = operate [.ref d, .int i u] (getItem (.ref d) (.int i u)) := by intro _; rfl) :
    Ev prog w A env H (.Subscript l r pos) (IsI (ns.getD i.toNat 0)) := fun E Q s hH hq => by
  refine Subscript_ (ho _ _ s hH fun v k hv => hr _ _ { s with toks := k } hH fun u k' hu => ?_)
  subst hv
  obtain ⟨u', rfl⟩ := hu
  exact item_anyK (s := { s with toks := k' }) (hH ▸ hl) hi h0 h1 (by omega) (fun t => hq _ _ ⟨t, rfl⟩) (hs u')

theorem tst_cmp {op : CmpOp} {c : Bool} (hl : Ev prog w A env H l (IsI a)) (hr : Ev prog w A env H r (IsI b))
    (ho : ∀ (E : Value → Shared → Prop) (Q : Value → Shared → Prop) (s : Shared) t u, (Q (.bool c) s) → wpAny (model prog w) A (compareOp op (.int a t) (.int b u)) Q E s)
    (hm : behindInMarks op r = false := by with_unfolding_all rfl) : Tst prog w A env H (.Compare l [op] [r] pos) c := fun E Q s hs hq => by
  refine wpAny_isTrue_Compare1 (hl _ _ s hs fun v k hv => hr _ _ { s with toks := k } hs fun u k' hu => ?_) hm
  obtain ⟨t, rfl⟩ := hv
  obtain ⟨u', rfl⟩ := hu
  exact ho _ _ _ _ _ (wpAny_truthy_bool (hq _))
theorem tst_lt (hl : Ev prog w A env H l (IsI a)) (hr : Ev prog w A env H r (IsI b)) (hm : behindInMarks .Lt r = false := by with_unfolding_all rfl) : Tst prog w A env H (.Compare l [.Lt] [r] pos) (decide (a < b)) := tst_cmp hl hr (fun _ _ _ _ _ h => P.lt_int h) hm
theorem tst_le (hl : Ev prog w A env H l (IsI a)) (hr : Ev prog w A env H r (IsI b)) (hm : behindInMarks .LtE r = false := by with_unfolding_all rfl) : Tst prog w A env H (.Compare l [.LtE] [r] pos) (decide (a ≤ b)) := tst_cmp hl hr (fun _ _ _ _ _ h => P.le_int h) hm
theorem tst_gt (hl : Ev prog w A env H l (IsI a)) (hr : Ev prog w A env H r (IsI b)) (hm : behindInMarks .Gt r = false := by with_unfolding_all rfl) : Tst prog w A env H (.Compare l [.Gt] [r] pos) (decide (a > b)) := tst_cmp hl hr (fun _ _ _ _ _ h => P.gt_int h) hm
theorem tst_eq (hl : Ev prog w A env H l (IsI a)) (hr : Ev prog w A env H r (IsI b)) (hm : behindInMarks .Eq r = false := by with_unfolding_all rfl) : Tst prog w A env H (.Compare l [.Eq] [r] pos) (a == b) := tst_cmp hl hr (fun _ _ _ _ _ h => P.eq_int h) hm

theorem ev_ifexp {c : Bool} {t : Expr} (ht : Tst prog w A env H t c) (hy : c = true → Ev prog w A env H l V) (hn : c = false → Ev prog w A env H r V) : Ev prog w A env H (.IfExp t l r pos) V := fun E Q s hs hq => by
  refine wpAny_IfExp (ht _ _ s hs fun k => ?_)
  cases c with
  | true => exact hy rfl _ _ { s with toks := k } hs hq
  | false => exact hn rfl _ _ { s with toks := k } hs hq
end

/-! ## Statements -/
section
variable {prog : Program} {w : World} {A : Around} {E : Value → Shared → Prop} {env : Env} {s : Shared} {h₀ : Heap} {m : PySem.Str → Option Value} {news : List (Addr × Obj)} {a b i j : Int} {value : Expr} {pos p : Pos} {x : PySem.Str} {V : Value → Prop} {Q : Flow → Shared → Prop}

def set1 (m : PySem.Str → Option Value) (x : PySem.Str) (v : Value) : PySem.Str → Option Value := fun y => if y = x then some v else m y
theorem set1_eq {m : PySem.Str → Option Value} {x : PySem.Str} {v : Value} : set1 m x v x = some v := if_pos rfl
theorem set1_ne {m : PySem.Str → Option Value} {x y : PySem.Str} {v : Value} {o : Option Value} (hne : y ≠ x) (h : m y = o) : set1 m x v y = o := (if_neg hne).trans h

theorem store1 {v : Value} {Q : Unit → Shared → Prop} (F : Fr h₀ env.locals s.heap m) (N : News h₀ env.locals s.heap news)
    (hq : ∀ h', Fr h₀ env.locals h' (set1 m x v) → News h₀ env.locals h' news → Heap.SameBut env.locals s.heap h' → Q () { s with heap := h', toks := s.toks + 1 })
    (hk : env.scope.kind = .function := by rfl) (hl : env.kindOf x = some .local := by rfl) : wpAny (model prog w) A (storeName env x v) Q E s :=
  wpAny_storeName_local hl F.ns (fun h' hn hs => hq h' (F.set hn hs) (N.set hs) hs) (by rw [hk]; rfl)

theorem do_assign (h : Ev prog w A env s.heap value V) (F : Fr h₀ env.locals s.heap m) (N : News h₀ env.locals s.heap news)
    (hq : ∀ v h' k, V v → Fr h₀ env.locals h' (set1 m x v) → News h₀ env.locals h' news → Q .next { s with heap := h', toks := k })
    (hs : swapsWith value (some (.Name x p)) pos.line env = pure false := by rfl) (hk : env.scope.kind = .function := by rfl) (hl : env.kindOf x = some .local := by rfl) :
    wpAny (model prog w) A (exec (.Assign [.Name x p] value pos) env) Q E s :=
  wpAny_Assign_Name (h _ _ s rfl fun v k hv => store1 (s := { s with toks := k }) F N (fun h' F' N' _ => hq v h' _ hv F' N') hk hl) hs
theorem do_int (h : Ev prog w A env s.heap value (IsI i)) (F : Fr h₀ env.locals s.heap m) (N : News h₀ env.locals s.heap news)
    (hq : ∀ t h' k, Fr h₀ env.locals h' (set1 m x (.int i t)) → News h₀ env.locals h' news → Q .next { s with heap := h', toks := k })
    (hs : swapsWith value (some (.Name x p)) pos.line env = pure false := by rfl) (hk : env.scope.kind = .function := by rfl) (hl : env.kindOf x = some .local := by rfl) :
    wpAny (model prog w) A (exec (.Assign [.Name x p] value pos) env) Q E s :=
  do_assign h F N (fun v h' k hv F' N' => by obtain ⟨t, rfl⟩ := hv; exact hq t h' k F' N') hs hk hl
theorem do_aug {op : Operator} {t : Tok} (hv : m x = some (.int a t)) (h : Ev prog w A env s.heap value (IsI b)) (F : Fr h₀ env.locals s.heap m) (N : News h₀ env.locals s.heap news)
    (ho : ∀ (E : Value → Shared → Prop) (Q : Value → Shared → Prop) (s : Shared) t u, (Q (.int i s.toks) { s with toks := s.toks + 1 }) → wpAny (model prog w) A (inplaceOp op (.int a t) (.int b u)) Q E s)
    (hq : ∀ t h' k, Fr h₀ env.locals h' (set1 m x (.int i t)) → News h₀ env.locals h' news → Q .next { s with heap := h', toks := k })
    (hk : env.scope.kind = .function := by rfl) (hl : env.kindOf x = some .local := by rfl) :
    wpAny (model prog w) A (exec (.AugAssign (.Name x p) op value pos) env) Q E s := by
  refine wpAny_AugAssign_Name (wpAny_loadName_local hk hl F.ns hv (h _ _ s rfl fun v k hv' => ?_))
  obtain ⟨u, rfl⟩ := hv'
  exact ho _ _ _ _ _ (store1 (s := { s with toks := k + 1 }) F N (fun h' F' N' _ => hq _ h' _ F' N') hk hl)
theorem do_add {t : Tok} (hv : m x = some (.int a t)) (h : Ev prog w A env s.heap value (IsI b)) (F : Fr h₀ env.locals s.heap m) (N : News h₀ env.locals s.heap news)
    (hq : ∀ t h' k, Fr h₀ env.locals h' (set1 m x (.int (a + b) t)) → News h₀ env.locals h' news → Q .next { s with heap := h', toks := k })
    (hk : env.scope.kind = .function := by rfl) (hl : env.kindOf x = some .local := by rfl) : wpAny (model prog w) A (exec (.AugAssign (.Name x p) .Add value pos) env) Q E s :=
  do_aug hv h F N (fun _ _ _ _ _ h => P.iadd_int h) hq hk hl
theorem do_sub {t : Tok} (hv : m x = some (.int a t)) (h : Ev prog w A env s.heap value (IsI b)) (F : Fr h₀ env.locals s.heap m) (N : News h₀ env.locals s.heap news)
    (hq : ∀ t h' k, Fr h₀ env.locals h' (set1 m x (.int (a - b) t)) → News h₀ env.locals h' news → Q .next { s with heap := h', toks := k })
    (hk : env.scope.kind = .function := by rfl) (hl : env.kindOf x = some .local := by rfl) : wpAny (model prog w) A (exec (.AugAssign (.Name x p) .Sub value pos) env) Q E s :=
  do_aug hv h F N (fun _ _ _ _ _ h => P.isub_int h) hq hk hl
theorem do_mod {t : Tok} (hv : m x = some (.int a t)) (h : Ev prog w A env s.heap value (IsI b)) (hb : b ≠ 0) (F : Fr h₀ env.locals s.heap m) (N : News h₀ env.locals s.heap news)
    (hq : ∀ t h' k, Fr h₀ env.locals h' (set1 m x (.int (a.fmod b) t)) → News h₀ env.locals h' news → Q .next { s with heap := h', toks := k })
    (hk : env.scope.kind = .function := by rfl) (hl : env.kindOf x = some .local := by rfl) : wpAny (model prog w) A (exec (.AugAssign (.Name x p) .Mod value pos) env) Q E s :=
  do_aug hv h F N (fun _ _ _ _ _ h => imod_int hb h) hq hk hl
theorem do_if {test : Expr} {body orelse : List Stmt} {c : Bool} (h : Tst prog w A env s.heap test c)
    (hy : c = true → ∀ k, wpAny (model prog w) A (execs body env) Q E { s with toks := k }) (hn : c = false → ∀ k, wpAny (model prog w) A (execs orelse env) Q E { s with toks := k }) :
    wpAny (model prog w) A (exec (.If test body orelse pos) env) Q E s := by
  refine wpAny_If (h _ _ s rfl fun k => ?_)
  cases c with
  | true => exact hy rfl k
  | false => exact hn rfl k
theorem do_next {st : Stmt} {rest : List Stmt} (h : wpAny (model prog w) A (exec st env) (fun f s' => f = .next ∧ wpAny (model prog w) A (execs rest env) Q E s') E s) : wpAny (model prog w) A (execs (st :: rest) env) Q E s :=
  wpAny_execs_cons (wpAny_mono h (fun f s' h' => by obtain ⟨rfl, h'⟩ := h'; exact h') fun _ _ x => x)
end
end Mine

namespace Mine

/-! ## The plain law: no program in sight -/
/-- the sum of the running sums -/
def wsum : List Int → Int
  | [] => 0
  | d :: r => ((r.length : Int) + 1) * d + wsum r
theorem wsum_append : ∀ a b : List Int, wsum (a ++ b) = wsum a + (b.length : Int) * a.sum + wsum b
  | [], b => by simp [wsum]
  | d :: r, b => by
    have ih := wsum_append r b
    simp only [List.cons_append, wsum, List.length_append, List.sum_cons, ih]
    push_cast
    grind
theorem wsum_replicate (f : Int) : ∀ n : Nat, 2 * wsum (List.replicate n f) = f * (n : Int) * ((n : Int) + 1)
  | 0 => by simp [wsum]
  | n + 1 => by
    have ih := wsum_replicate f n
    simp only [List.replicate_succ, wsum, List.length_replicate]
    push_cast
    grind
theorem sum_replicate (f : Int) : ∀ n : Nat, (List.replicate n f).sum = f * (n : Int)
  | 0 => by simp
  | n + 1 => by
    rw [List.replicate_succ, List.sum_cons, sum_replicate f n]
    push_cast
    grind
/-- a place turned: the sum, the weighed sum -/
theorem sum_turn (x : Int) : ∀ (l : List Int) (i : Nat), i < l.length → (l.set i x).sum = l.sum + (x - l.getD i 0)
  | [], _, h => absurd h (Nat.not_lt_zero _)
  | a :: r, 0, _ => by simp; omega
  | a :: r, i + 1, h => by
    have ih := sum_turn x r i (Nat.lt_of_succ_lt_succ h)
    simp only [List.set_cons_succ, List.sum_cons, ih, List.getD_cons_succ]
    omega
theorem wsum_turn (x : Int) : ∀ (l : List Int) (i : Nat), i < l.length → wsum (l.set i x) = wsum l + ((l.length : Int) - (i : Int)) * (x - l.getD i 0)
  | [], _, h => absurd h (Nat.not_lt_zero _)
  | a :: r, 0, _ => by
    simp only [List.set_cons_zero, wsum, List.length_cons, List.getD_cons_zero]
    push_cast
    grind
  | a :: r, i + 1, h => by
    have ih := wsum_turn x r i (Nat.lt_of_succ_lt_succ h)
    simp only [List.set_cons_succ, wsum, List.length_set, ih, List.getD_cons_succ, List.length_cons]
    push_cast
    grind
/-- the two sums, run -/
def runs (c : Int × Int) (l : List Int) : Int × Int := l.foldl (fun p d => (p.1 + d, p.2 + (p.1 + d))) c
theorem runs_eq : ∀ (l : List Int) (c : Int × Int), runs c l = (c.1 + l.sum, c.2 + c.1 * (l.length : Int) + wsum l)
  | [], c => by simp [runs, wsum]
  | d :: r, c => by
    have ih := runs_eq r (c.1 + d, c.2 + (c.1 + d))
    have e : runs c (d :: r) = runs (c.1 + d, c.2 + (c.1 + d)) r := rfl
    rw [e, ih]
    simp only [List.sum_cons, wsum, List.length_cons]
    push_cast
    refine Prod.ext ?_ ?_ <;> simp only <;> grind

/-- the row with the two octets at p struck -/
def struck (ks : List Int) (p : Nat) : List Int := (ks.set p 0).set (p + 1) 0
theorem struck_length (ks : List Int) (p : Nat) : (struck ks p).length = ks.length := by simp [struck]
theorem struck_cut : ∀ (p : Nat) (ks : List Int), p + 2 ≤ ks.length → struck ks p = ks.take p ++ [0, 0] ++ ks.drop (p + 2)
  | 0, [], h => absurd h (by simp)
  | 0, [_], h => absurd h (by simp)
  | 0, a :: b :: r, _ => by simp [struck]
  | p + 1, [], h => absurd h (by simp)
  | p + 1, a :: r, h => by
    have ih := struck_cut p r (by simpa using h)
    have e : struck (a :: r) (p + 1) = a :: struck r p := by simp [struck]
    rw [e, ih]
    simp
theorem struck_set (ks : List Int) (p : Nat) (x y : Int) : struck ((ks.set p x).set (p + 1) y) p = struck ks p := by
  unfold struck
  apply List.ext_getElem?
  intro i
  simp only [List.getElem?_set, List.length_set]
  by_cases h1 : p + 1 = i
  · simp [h1]
  · by_cases h2 : p = i
    · simp [h2]
    · simp [h1, h2]

/-! what the function tells -/
def xOf (n p c0 c1 : Int) : Int := if ((n - p - 1) * c0 - c1) % 255 ≤ 0 then ((n - p - 1) * c0 - c1) % 255 + 255 else ((n - p - 1) * c0 - c1) % 255
def yOf (c0 x : Int) : Int := if 510 - c0 - x > 255 then 510 - c0 - x - 255 else 510 - c0 - x
/-- the two octets for a row (struck), its two sums by 255 -/
def hiOf (zs : List Int) (p : Int) : Int := xOf (zs.length : Int) p (zs.sum % 255) (wsum zs % 255)
def loOf (zs : List Int) (p : Int) : Int := yOf (zs.sum % 255) (hiOf zs p)
def toldOf (zs : List Int) (p : Int) : Int := 256 * hiOf zs p + loOf zs p
theorem hi_range (zs : List Int) (p : Int) : 1 ≤ hiOf zs p ∧ hiOf zs p ≤ 255 := by
  unfold hiOf xOf
  generalize ((zs.length : Int) - p - 1) * (zs.sum % 255) - wsum zs % 255 = T
  split <;> omega
theorem lo_range (zs : List Int) (p : Int) : 1 ≤ loOf zs p ∧ loOf zs p ≤ 255 := by
  have h := hi_range zs p
  unfold loOf yOf
  generalize hiOf zs p = x at h
  split <;> omega
theorem told_hi (zs : List Int) (p : Int) : (toldOf zs p).fdiv 256 = hiOf zs p := by
  have h := lo_range zs p
  unfold toldOf
  rw [Int.fdiv_eq_ediv_of_nonneg _ (by decide)]
  omega
theorem told_lo (zs : List Int) (p : Int) : (toldOf zs p).fmod 256 = loOf zs p := by
  have h := lo_range zs p
  unfold toldOf
  rw [Int.fmod_eq_emod_of_nonneg _ (by decide)]
  omega
/-- the low octet for a high one -/
theorem low_at (zs : List Int) (p : Int) : 255 - (zs.sum + hiOf zs p) % 255 = loOf zs p := by
  have h := hi_range zs p
  unfold loOf yOf
  generalize hiOf zs p = x at h
  split <;> omega
/-- the one high octet that leaves no rest -/
theorem high_iff (zs : List Int) (p h : Int) (h1 : 1 ≤ h) (h2 : h ≤ 255) :
    (wsum zs + ((zs.length : Int) - p) * h + ((zs.length : Int) - p - 1) * (255 - (zs.sum + h) % 255)) % 255 = 0 ↔ h = hiOf zs p := by
  have hx : hiOf zs p % 255 = (((zs.length : Int) - p - 1) * (zs.sum % 255) - wsum zs % 255) % 255 := by
    unfold hiOf xOf
    split <;> omega
  have hr := hi_range zs p
  generalize hiOf zs p = x at hx hr ⊢
  generalize zs.sum = S at hx ⊢
  generalize wsum zs = V at hx ⊢
  obtain ⟨a, ha⟩ : ∃ a : Int, (zs.length : Int) - p - 1 = a := ⟨_, rfl⟩
  have ha' : (zs.length : Int) - p = a + 1 := by omega
  rw [ha] at hx
  rw [ha, ha']
  have e1 : V + (a + 1) * h + a * (255 - (S + h) % 255) = (V + h - a * S) + 255 * (a * (1 + (S + h) / 255)) := by
    have hd := Int.emod_add_mul_ediv (S + h) 255
    grind
  have e2 : a * (S % 255) - V % 255 = (a * S - V) + 255 * (V / 255 - a * (S / 255)) := by
    have hd := Int.emod_add_mul_ediv S 255
    have hd' := Int.emod_add_mul_ediv V 255
    grind
  rw [e1, Int.add_mul_emod_self_left]
  rw [e2, Int.add_mul_emod_self_left] at hx
  generalize a * S = T at hx ⊢
  omega
end Mine

namespace Mine
open Builtin
set_option maxRecDepth 100000

/-! ## statements and calls in the clean logic -/
section
variable {prog : Program} {w : World} {A : Around} {E : Value → Shared → Prop} {env : Env} {s : Shared} {h₀ : Heap} {m : PySem.Str → Option Value} {news : List (Addr × Obj)} {value o i : Expr} {pos p p' : Pos} {x f : PySem.Str} {V : Value → Prop} {Q : Flow → Shared → Prop}

theorem doC_any {st : Stmt} {rest : List Stmt} (h : wpAny (model prog w) A (exec st env) (fun f s' => f = .next ∧ wpC (model prog w) A (execs rest env) Q E s') E s) : wpC (model prog w) A (execs (st :: rest) env) Q E s :=
  wpC_execs_cons (wpC_any (wpAny_mono h (fun f s' h' => by obtain ⟨rfl, h'⟩ := h'; exact h') fun _ _ x => x))
theorem doC_next {st : Stmt} {rest : List Stmt} (h : wpC (model prog w) A (exec st env) (fun f s' => f = .next ∧ wpC (model prog w) A (execs rest env) Q E s') E s) : wpC (model prog w) A (execs (st :: rest) env) Q E s :=
  wpC_execs_cons (wpC_mono h (fun f s' h' => by obtain ⟨rfl, h'⟩ := h'; exact h') fun _ _ x => x)

theorem wpC_Assign_Name (h : wpC (model prog w) A (eval value env) (fun v s₁ => wpAny (model prog w) A (storeName env x v) (fun _ => Q .next) E s₁) E s)
    (hs : swapsWith value (some (.Name x p)) pos.line env = pure false := by rfl) : wpC (model prog w) A (exec (.Assign [.Name x p] value pos) env) Q E s := by
  rw [exec_Assign_Name env x p value pos hs]
  refine wpC_bindA (wpAny_standAt (wpC_bind (wpC_mono h (fun v s₁ h₁ => ?_) fun _ _ x => x)))
  exact wpC_any (wpAny_bind (wpAny_standAt (wpAny_bind (wpAny_bindName (wpAny_mono h₁ (fun _ _ y => wpAny_pure y) fun _ _ x => x)))))

theorem wpC_Assign_Subscript (h : wpAny (model prog w) A (eval value env) (fun v s₁ => wpAny (model prog w) A (eval o env) (fun ov s₂ => wpAny (model prog w) A (eval i env) (fun iv s₃ =>
      wpC (model prog w) A (setItem ov iv v) (fun _ => Q .next) E s₃) E s₂) E s₁) E s)
    (hs : swapsWith value (some (.Subscript o i p)) pos.line env = pure false := by rfl) : wpC (model prog w) A (exec (.Assign [.Subscript o i p] value pos) env) Q E s := fun Γ q hΓ hC => by
  simp only [exec_Assign_Subscript o i p value pos hs, assign_Subscript, Sem.wp_bind', Sem.wp_holding, Sem.wp_cmd_standAt, Sem.wp_release, Sem.wp_pure']
  exact Sem.wp_mono _ Γ _ (fun v p₁ s₁ h₁ => Sem.wp_mono _ Γ _ (fun ov p₂ s₂ h₂ => Sem.wp_mono _ Γ _ (fun iv _ s₃ h₃ => h₃ Γ _ hΓ hC)
    (fun _ _ _ h' => h') _ _ (h₂ Γ p₂ hΓ)) (fun _ _ _ h' => h') _ _ (h₁ Γ p₁ hΓ)) (fun _ _ _ h' => h') _ _ (h Γ _ hΓ)

theorem wpC_Return (h : wpC (model prog w) A (eval value env) (fun v => Q (.ret v)) E s) : wpC (model prog w) A (exec (.Return (some value) pos) env) Q E s := fun Γ q hΓ hC => by
  simp only [exec_Return_some, Sem.wp_bind', Sem.wp_cmd_standAt, Sem.wp_pure']; exact h Γ _ hΓ hC

section
variable {Q : Value → Shared → Prop} {a1 a2 : Expr} {V1 V2 : Value → Prop} {g : Value}
theorem args1 {R : Args → Shared → Prop} (h1 : Ev prog w A env s.heap a1 V1) (hq : ∀ v1 k, V1 v1 → R ⟨[v1], []⟩ { s with toks := k }) (he : starEach [a1] env = [(false, eval a1 env)] := by rfl) :
    wpAny (model prog w) A (evalArgs g true (backTo pos (starEach [a1] env)) []) R E s := by
  rw [he]
  exact evalArgs_plain (spliced_cons (h1 _ _ s rfl fun v1 k hv => wpAny_pure (hq v1 k hv)))
theorem args2 {R : Args → Shared → Prop} (h1 : Ev prog w A env s.heap a1 V1) (h2 : Ev prog w A env s.heap a2 V2) (hq : ∀ v1 v2 k, V1 v1 → V2 v2 → R ⟨[v1, v2], []⟩ { s with toks := k }) (he : starEach [a1, a2] env = [(false, eval a1 env), (false, eval a2 env)] := by rfl) :
    wpAny (model prog w) A (evalArgs g true (backTo pos (starEach [a1, a2] env)) []) R E s := by
  rw [he]
  refine evalArgs_plain (spliced_cons (h1 _ _ s rfl fun v1 k hv => spliced_cons (h2 _ _ { s with toks := k } rfl fun v2 k2 hv2 => wpAny_pure (hq v1 v2 k2 hv hv2))))

/-- f(a) of a built-in function, f(a, b) -/
theorem eval_call1 {id : String} (hf : Ev prog w A env s.heap (.Name f p) (· = .builtin id)) (h1 : Ev prog w A env s.heap a1 V1)
    (hc : ∀ v1 k, V1 v1 → wpAny (model prog w) A (call (.builtin id) [v1]) Q E { s with toks := k }) (he : starEach [a1] env = [(false, eval a1 env)] := by rfl) :
    wpAny (model prog w) A (eval (.Call (.Name f p) [a1] [] pos) env) Q E s := by
  rw [arm_eval_Call_Name']
  refine wpAny_bind (hf _ _ s rfl fun v k hv => ?_)
  subst hv
  refine callWith_builtin (by rw [he]; rfl) (args1 (s := { s with toks := k }) h1 (fun v1 k1 hv1 => hc v1 k1 hv1) he)
theorem eval_call2 {id : String} (hf : Ev prog w A env s.heap (.Name f p) (· = .builtin id)) (h1 : Ev prog w A env s.heap a1 V1) (h2 : Ev prog w A env s.heap a2 V2)
    (hc : ∀ v1 v2 k, V1 v1 → V2 v2 → wpAny (model prog w) A (call (.builtin id) [v1, v2]) Q E { s with toks := k }) (he : starEach [a1, a2] env = [(false, eval a1 env), (false, eval a2 env)] := by rfl) :
    wpAny (model prog w) A (eval (.Call (.Name f p) [a1, a2] [] pos) env) Q E s := by
  rw [arm_eval_Call_Name']
  refine wpAny_bind (hf _ _ s rfl fun v k hv => ?_)
  subst hv
  refine callWith_builtin (by rw [he]; rfl) (args2 (s := { s with toks := k }) h1 h2 (fun v1 v2 k1 hv1 hv2 => hc v1 v2 k1 hv1 hv2) he)
theorem eval_callT {T : String} (hf : Ev prog w A env s.heap (.Name f p) (· = .type T)) (h1 : Ev prog w A env s.heap a1 V1)
    (hc : ∀ v1 k, V1 v1 → wpAny (model prog w) A (call (.type T) [v1]) Q E { s with toks := k }) (he : starEach [a1] env = [(false, eval a1 env)] := by rfl) :
    wpAny (model prog w) A (eval (.Call (.Name f p) [a1] [] pos) env) Q E s := by
  rw [arm_eval_Call_Name']
  refine wpAny_bind (hf _ _ s rfl fun v k hv => ?_)
  subst hv
  refine PySem.callWith_type (by rw [he]; rfl) (args1 (s := { s with toks := k }) h1 (fun v1 k1 hv1 => hc v1 k1 hv1) he)
theorem eval_callT2 {T : String} (hf : Ev prog w A env s.heap (.Name f p) (· = .type T)) (h1 : Ev prog w A env s.heap a1 V1) (h2 : Ev prog w A env s.heap a2 V2)
    (hc : ∀ v1 v2 k, V1 v1 → V2 v2 → wpAny (model prog w) A (call (.type T) [v1, v2]) Q E { s with toks := k }) (he : starEach [a1, a2] env = [(false, eval a1 env), (false, eval a2 env)] := by rfl) :
    wpAny (model prog w) A (eval (.Call (.Name f p) [a1, a2] [] pos) env) Q E s := by
  rw [arm_eval_Call_Name']
  refine wpAny_bind (hf _ _ s rfl fun v k hv => ?_)
  subst hv
  refine PySem.callWith_type (by rw [he]; rfl) (args2 (s := { s with toks := k }) h1 h2 (fun v1 v2 k1 hv1 hv2 => hc v1 v2 k1 hv1 hv2) he)

/-- a type called, in the clean logic -/
theorem evalC_callT {T : String} (hf : Ev prog w A env s.heap (.Name f p) (· = .type T)) (h1 : Ev prog w A env s.heap a1 V1)
    (hc : ∀ v1 k, V1 v1 → codeC (model prog w) A (.call (.type T) ⟨[v1], []⟩) (wants Q E) { s with toks := k }) (he : starEach [a1] env = [(false, eval a1 env)] := by rfl) :
    wpC (model prog w) A (eval (.Call (.Name f p) [a1] [] pos) env) Q E s := by
  rw [arm_eval_Call_Name']
  refine wpC_bindA (hf _ _ s rfl fun v k hv => ?_)
  subst hv
  unfold callWith
  refine wpC_bindA (wpAny_holding (args1 (s := { s with toks := k }) h1 (fun v1 k1 hv1 => wpC_bindA (wpAny_standAt ?_)) he))
  have hplain : (backTo pos (starEach [a1] env)).any (·.1) = false := by rw [he]; rfl
  simp only [hplain, backToKw, keywordEach, List.map_nil, List.any_nil, Bool.or_false]
  refine wpC_bindA (wpAny_pure ?_)
  exact wpC_bind (wpC_mono (wpC_call (hc v1 k1 hv1)) (fun r s₂ hr => wpC_any (wpAny_bind (wpAny_holding (wpAny_point (wpAny_pure hr))))) fun _ _ x => x)

/-- a def of the text's called with two arguments, in the clean logic; the second argument leaves the heap as it is -/
theorem evalC_callF {a : Addr} {fo : Obj} {fd : FuncData} (hf : Ev prog w A env s.heap (.Name f p) (· = .ref a)) (hd : fo.data = .func fd)
    (h1 : wpAny (model prog w) A (eval a1 env) (fun v1 s₁ => s₁.heap.get? a = some fo ∧ Ev prog w A env s₁.heap a2 V2 ∧ ∀ v2 k, V2 v2 → codeC (model prog w) A (.call (.ref a) ⟨[v1, v2], []⟩) (wants Q E) { s₁ with toks := k }) E s)
    (hk : ∀ k, wpAny (model prog w) A (eval a1 env) (fun v1 s₁ => s₁.heap.get? a = some fo ∧ Ev prog w A env s₁.heap a2 V2 ∧ ∀ v2 k, V2 v2 → codeC (model prog w) A (.call (.ref a) ⟨[v1, v2], []⟩) (wants Q E) { s₁ with toks := k }) E { s with toks := k })
    (he : starEach [a1, a2] env = [(false, eval a1 env), (false, eval a2 env)] := by rfl) :
    wpC (model prog w) A (eval (.Call (.Name f p) [a1, a2] [] pos) env) Q E s := by
  rw [arm_eval_Call_Name']
  refine wpC_bindA (hf _ _ s rfl fun v k hv => ?_)
  subst hv
  unfold callWith
  refine wpC_bindA (wpAny_holding ?_)
  have hplain : (backTo pos (starEach [a1, a2] env)).any (·.1) = false := by rw [he]; rfl
  have hlen : (backTo pos (starEach [a1, a2] env)).length = 2 := by rw [he]; rfl
  have key : ∀ v1 v2 (s₁ : Shared), s₁.heap.get? a = some fo → codeC (model prog w) A (.call (.ref a) ⟨[v1, v2], []⟩) (wants Q E) s₁ →
      wpC (model prog w) A (do
        standAt pos
        let starred := (backTo pos (starEach [a1, a2] env)).any (·.1) || (backToKw pos (keywordEach [] env)).any (·.1.isNone)
        let ps := [] ++ (⟨[v1, v2], []⟩ : Args).pos
        let r ← match ← keeperOf (.ref a), starred with
          | .frame, true => callMarked starredCall (.ref a) ps (⟨[v1, v2], []⟩ : Args).kw
          | .frame, false => if (backTo pos (starEach [a1, a2] env)).length + 2 * (backToKw pos (keywordEach [] env)).length > 30 then call (.ref a) ps (⟨[v1, v2], []⟩ : Args).kw else callMarked plainCall (.ref a) ps (⟨[v1, v2], []⟩ : Args).kw
          | .boundFrame, false => if (backTo pos (starEach [a1, a2] env)).length + 2 * (backToKw pos (keywordEach [] env)).length > 30 then call (.ref a) ps (⟨[v1, v2], []⟩ : Args).kw else callMarked callOfAMethodObject (.ref a) ps (⟨[v1, v2], []⟩ : Args).kw
          | .machine, false => call (.ref a) ps (⟨[v1, v2], []⟩ : Args).kw
          | _, _ => operate ((.ref a) :: (if starred then ps.reverse else ps) ++ (⟨[v1, v2], []⟩ : Args).kw.map (·.2)) (call (.ref a) ps (⟨[v1, v2], []⟩ : Args).kw)
        holding [r] point
        pure r) Q E s₁ := by
    intro v1 v2 s₁ hfo hcc
    refine wpC_bindA (wpAny_standAt ?_)
    simp only [hplain, hlen, backToKw, keywordEach, List.map_nil, List.any_nil, Bool.or_false, List.length_nil, List.nil_append]
    refine wpC_bindA (m := keeperOf (.ref a)) ?_
    unfold keeperOf
    refine wpAny_bind (wpAny_load hfo ?_)
    rw [hd]
    refine wpAny_pure ?_
    dsimp only
    rw [if_neg (by decide)]
    refine wpC_bind ?_
    unfold callMarked
    refine wpC_keep (wpC_mono (wpC_call hcc) (fun r s₂ hr => wpC_any (wpAny_bind (wpAny_holding (wpAny_point (wpAny_pure hr))))) fun _ _ x => x)
  rw [he]
  refine evalArgs_plain (spliced_cons (wpAny_mono (hk k) (fun v1 s₁ h₁ => ?_) fun _ _ x => x))
  obtain ⟨hfo, h2, hcc⟩ := h₁
  refine spliced_cons (h2 _ _ s₁ rfl fun v2 k2 hv2 => wpAny_pure ?_)
  rw [← he]
  exact key v1 v2 { s₁ with toks := k2 } hfo (hcc v2 k2 hv2)
end
end
end Mine

namespace Mine
open Builtin
set_option maxRecDepth 100000

/-! ## the text's two defs, read off the program -/
def defBody : Stmt → List Stmt
  | .FunctionDef _ _ b _ _ _ _ _ _ _ => b
  | _ => []
def defScope : Stmt → Scope
  | .FunctionDef _ _ _ _ _ _ sc _ _ _ => sc
  | _ => default
def defParams : Stmt → Arguments
  | .FunctionDef _ a _ _ _ _ _ _ _ _ => a
  | _ => default
def whTest : Stmt → Expr
  | .While t _ _ _ => t
  | _ => default
def whBody : Stmt → List Stmt
  | .While _ b _ _ => b
  | _ => []
def flSt : Stmt := PySem.Challenge.pw_lc0003_01.main.body.getD 2 default
def lawSt : Stmt := PySem.Challenge.pw_lc0003_01.main.body.getD 4 default
def flBody : List Stmt := defBody flSt
def flScope : Scope := defScope flSt
def flParams : Arguments := defParams flSt
def flW : Stmt := flBody.getD 6 default
abbrev envF (L a : Addr) (cd : Value) : Env := envOf (PySem.Str.ofString "fletcher_checksum") flScope L a cd

/-! ## what a frame holds -/
def HasI (m : PySem.Str → Option Value) (x : PySem.Str) (i : Int) : Prop := ∃ t, m x = some (.int i t)
theorem HasI.eq {m : PySem.Str → Option Value} {x : PySem.Str} {i : Int} {t : Tok} : HasI (set1 m x (.int i t)) x i := ⟨t, set1_eq⟩
theorem HasI.ne {m : PySem.Str → Option Value} {x y : PySem.Str} {i : Int} {v : Value} (h : HasI m y i) (hne : y ≠ x) : HasI (set1 m x v) y i := let ⟨t, e⟩ := h; ⟨t, set1_ne hne e⟩
theorem HasI.cast {m : PySem.Str → Option Value} {x : PySem.Str} {i j : Int} (h : HasI m x i) (e : i = j) : HasI m x j := e ▸ h
theorem ev_has {prog : Program} {w : World} {A : Around} {env : Env} {H : Heap} {m : PySem.Str → Option Value} {i : Int} {pos : Pos} {x : PySem.Str} (h : HasI m x i) (hn : H.Ns env.locals m) (hk : env.scope.kind = .function := by rfl) (hl : env.kindOf x = some .local := by rfl) (hd : (x == ("__debug__" : PySem.Str)) = false := by decide) :
    Ev prog w A env H (.Name x pos) (IsI i) := let ⟨_, e⟩ := h; ev_int hn e hk hl hd

/-- the globals that the two defs ask for -/
structure Glb (mg mb : PySem.Str → Option Value) (h : Heap) : Prop where
  g : h.Ns mainGlobals mg
  b : h.Ns builtinsNs mb
  nolimit : h.NoLimit
  modx : ∃ t, mg "_MODX" = some (.int 4102 t)
  gl : mg "len" = none ∧ mg "min" = none ∧ mg "bytearray" = none ∧ mg "bytes" = none ∧ mg "list" = none ∧ mg "range" = none
  bl : mb "len" = some (.builtin "len") ∧ mb "min" = some (.builtin "min") ∧ mb "bytearray" = some (.type "bytearray") ∧ mb "bytes" = some (.type "bytes") ∧ mb "list" = some (.type "list") ∧ mb "range" = some (.type "range")
theorem Glb.keeps {mg mb : PySem.Str → Option Value} {h h' : Heap} (G : Glb mg mb h) (k : ∀ b o, h.get? b = some o → h'.get? b = some o) : Glb mg mb h' :=
  ⟨G.g.keeps k, G.b.keeps k, G.nolimit.keeps k, G.modx, G.gl, G.bl⟩

/-- the state of fletcher_checksum's frame about its loop -/
structure FlS (m : PySem.Str → Option Value) (D : Addr) (n off pos c0 c1 : Int) : Prop where
  data : m "data" = some (.ref D)
  off : HasI m "offset" off
  len : HasI m "length" n
  pos : HasI m "pos" pos
  c0 : HasI m "c0" c0
  c1 : HasI m "c1" c1
theorem FlS.other {m : PySem.Str → Option Value} {D : Addr} {n off pos c0 c1 : Int} {x : PySem.Str} {v : Value} (S : FlS m D n off pos c0 c1)
    (h : ("data" : PySem.Str) ≠ x ∧ ("offset" : PySem.Str) ≠ x ∧ ("length" : PySem.Str) ≠ x ∧ ("pos" : PySem.Str) ≠ x ∧ ("c0" : PySem.Str) ≠ x ∧ ("c1" : PySem.Str) ≠ x) : FlS (set1 m x v) D n off pos c0 c1 :=
  ⟨set1_ne h.1 S.data, S.off.ne h.2.1, S.len.ne h.2.2.1, S.pos.ne h.2.2.2.1, S.c0.ne h.2.2.2.2.1, S.c1.ne h.2.2.2.2.2⟩
theorem FlS.setC0 {m : PySem.Str → Option Value} {D : Addr} {n off pos c0 c1 i : Int} {t : Tok} (S : FlS m D n off pos c0 c1) : FlS (set1 m "c0" (.int i t)) D n off pos i c1 :=
  ⟨set1_ne (by decide) S.data, S.off.ne (by decide), S.len.ne (by decide), S.pos.ne (by decide), .eq, S.c1.ne (by decide)⟩
theorem FlS.setC1 {m : PySem.Str → Option Value} {D : Addr} {n off pos c0 c1 i : Int} {t : Tok} (S : FlS m D n off pos c0 c1) : FlS (set1 m "c1" (.int i t)) D n off pos c0 i :=
  ⟨set1_ne (by decide) S.data, S.off.ne (by decide), S.len.ne (by decide), S.pos.ne (by decide), S.c0.ne (by decide), .eq⟩
theorem FlS.setPos {m : PySem.Str → Option Value} {D : Addr} {n off pos c0 c1 i : Int} {t : Tok} (S : FlS m D n off pos c0 c1) : FlS (set1 m "pos" (.int i t)) D n off i c0 c1 :=
  ⟨set1_ne (by decide) S.data, S.off.ne (by decide), S.len.ne (by decide), .eq, S.c0.ne (by decide), S.c1.ne (by decide)⟩

theorem FlS.cast {m : PySem.Str → Option Value} {D : Addr} {n off pos c0 c1 pos' c0' c1' : Int} (S : FlS m D n off pos c0 c1) (e1 : pos = pos') (e2 : c0 = c0') (e3 : c1 = c1') : FlS m D n off pos' c0' c1' := by
  subst e1 e2 e3; exact S

theorem bInts_cut (zb : Array UInt8) (i j : Nat) : KBw.bInts ((zb.toList.drop i).take j).toArray = ((KBw.bInts zb).drop i).take j := by
  show ((zb.toList.drop i).take j).map _ = ((zb.toList.map _).drop i).take j
  rw [List.map_take, List.map_drop]

/-- one chunk's end: the sums by 255 -/
theorem chunk_sums (zs : List Int) (i j : Nat) (h : i + j ≤ zs.length) :
    ((zs.take i).sum % 255 + ((zs.drop i).take j).sum) % 255 = (zs.take (i + j)).sum % 255 ∧
    (wsum (zs.take i) % 255 + (zs.take i).sum % 255 * (j : Int) + wsum ((zs.drop i).take j)) % 255 = wsum (zs.take (i + j)) % 255 := by
  have e : zs.take (i + j) = zs.take i ++ (zs.drop i).take j := List.take_add ..
  have hl : ((zs.drop i).take j).length = j := by rw [List.length_take, List.length_drop]; omega
  rw [e, wsum_append, List.sum_append, hl]
  generalize (zs.take i).sum = S
  generalize wsum (zs.take i) = W
  generalize ((zs.drop i).take j).sum = S'
  generalize wsum ((zs.drop i).take j) = W'
  refine ⟨by omega, ?_⟩
  have e2 : W % 255 + S % 255 * (j : Int) + W' = (W + (j : Int) * S + W') + 255 * (-(W / 255) - (j : Int) * (S / 255)) := by
    have hd := Int.emod_add_mul_ediv S 255
    have hd' := Int.emod_add_mul_ediv W 255
    grind
  rw [e2, Int.add_mul_emod_self_left]

section
variable {prog : Program} {w : World} {A : Around} {s : Shared} {h₀ : Heap} {mg mb : PySem.Str → Option Value} {L a D : Addr} {cd : Value} {zb : Array UInt8} {n off : Int} {R : Result → Shared → Prop}

theorem fl_turn {h : Heap} {tk : Nat} {m : PySem.Str → Option Value} {pos : Nat} {Q : Flow → Shared → Prop} (hh : A.handled = none) (G : Glb mg mb h₀) (F : Fr h₀ L h m) (N : News h₀ L h [(D, baObj zb)])
    (hz : zb.size ≤ 16777216) (hn : n = zb.size) (hlt : pos < zb.size)
    (S : FlS m D n off pos (((KBw.bInts zb).take pos).sum % 255) (wsum ((KBw.bInts zb).take pos) % 255))
    (hq : ∀ h' k m' (tl : Nat), 0 < tl → pos + tl ≤ zb.size → Fr h₀ L h' m' → News h₀ L h' [(D, baObj zb)] →
      FlS m' D n off ((pos + tl : Nat) : Int) (((KBw.bInts zb).take (pos + tl)).sum % 255) (wsum ((KBw.bInts zb).take (pos + tl)) % 255) → Q .next { s with heap := h', toks := k }) :
    wpAny (model prog w) A (execs (whBody flW) (envF L a cd)) Q (fun _ _ => False) { s with heap := h, toks := tk } := by
  have hzl : (KBw.bInts zb).length = zb.size := KBw.ints_length zb
  -- tlen = min(length - pos, _MODX)
  obtain ⟨tm, hm⟩ := G.modx
  refine do_next (wpAny_Assign_Name (eval_call2 (id := "min") (s := { s with heap := h, toks := tk }) (ev_builtin (G.g.keeps F.keep) G.gl.2.1 (G.b.keeps F.keep) G.bl.2.1)
    (ev_sub (ev_has S.len F.ns) (ev_has S.pos F.ns)) (ev_global (G.g.keeps F.keep) hm) fun v1 v2 k hv1 hv2 => ?_))
  obtain ⟨t1, rfl⟩ := hv1
  subst hv2
  refine min_two_N (h₀ := h₀) (L := L) (s := { s with heap := h, toks := k }) hh F N fun h1 tk1 F1 N1 => ?_
  obtain ⟨tl, htl, htl0, htl1⟩ : ∃ tl : Nat, (if (4102 : Int) < n - pos then (4102 : Int) else n - pos) = tl ∧ 0 < tl ∧ pos + tl ≤ zb.size := by
    refine ⟨(if (4102 : Int) < n - pos then (4102 : Int) else n - pos).toNat, ?_, ?_, ?_⟩ <;> split <;> omega
  rw [htl]
  refine store1 (env := envF L a cd) (s := { s with heap := h1, toks := tk1 }) F1 N1 fun h2 F2 N2 _ => ⟨rfl, ?_⟩
  have S2 := S.other (x := "tlen") (v := .int tl (if (4102 : Int) < n - pos then tm else t1)) (by decide)
  have T2 : HasI (set1 m "tlen" (.int tl (if (4102 : Int) < n - pos then tm else t1))) "tlen" tl := .eq
  generalize set1 m "tlen" (.int tl (if (4102 : Int) < n - pos then tm else t1)) = m2 at F2 S2 T2
  -- for d in data[pos:pos + tlen]
  refine do_next (For_invV h₀ (env := envF L a cd) rfl rfl (wpAny_Subscript_Slice (T := "bytearray") ba_slot_getitem.lookup ((ev_local F2.ns S2.data : Ev prog w A (envF L a cd) h2 _ _) _ _ { s with heap := h2, toks := tk1 + 1 } rfl fun v k hv => ?_)))
  subst hv
  refine wpAny_Slice ((ev_has S2.pos F2.ns : Ev prog w A (envF L a cd) h2 _ _) _ _ { s with heap := h2, toks := k } rfl fun v1 k1 hv1 => (ev_add (ev_has S2.pos F2.ns) (ev_has T2 F2.ns) : Ev prog w A (envF L a cd) h2 _ _) _ _ { s with heap := h2, toks := k1 } rfl fun v2 k2 hv2 => wpAny_pure ?_)
  obtain ⟨u1, rfl⟩ := hv1
  obtain ⟨u2, rfl⟩ := hv2
  have hD := (N2 _ (.head _)).1
  have hD1 := Heap.get?_push_of_some { cls := .type "slice", data := .fields #[.int (pos : Int) u1, .int ((pos : Int) + (tl : Int)) u2, .none] } hD
  refine ⟨⟨_, hD1, rfl⟩, ba_getSlice (s := ⟨_, _, _, _, _⟩) hD1 (Heap.IsSliceOf.new _ _ _ _) (by omega) (by omega) (by omega) hz ?_⟩
  have e1 : ((pos : Int) + (tl : Int) - (pos : Int)).toNat = tl := by omega
  rw [Int.toNat_natCast, e1]
  generalize hcb : ((zb.toList.drop pos).take tl).toArray = cb
  have hcbI : KBw.bInts cb = ((KBw.bInts zb).drop pos).take tl := by rw [← hcb, bInts_cut]
  have hcl : (KBw.bInts cb).length = tl := by rw [hcbI, List.length_take, List.length_drop, hzl]; omega
  have hcs : cb.size = tl := by rw [← KBw.ints_length, hcl]
  have F3 := F2.push { cls := .type "slice", data := .fields #[.int (pos : Int) u1, .int ((pos : Int) + (tl : Int)) u2, .none] }
  have N3 := News.pushKeep N2 { cls := .type "slice", data := .fields #[.int (pos : Int) u1, .int ((pos : Int) + (tl : Int)) u2, .none] }
  generalize h2.push { cls := .type "slice", data := .fields #[.int (pos : Int) u1, .int ((pos : Int) + (tl : Int)) u2, .none] } = h3 at F3 N3 ⊢
  refine iter_ba (fun i m' news' => news' = [(D, baObj zb)] ∧ HasI m' "tlen" tl ∧
      FlS m' D n off pos (runs (((KBw.bInts zb).take pos).sum % 255, wsum ((KBw.bInts zb).take pos) % 255) ((KBw.bInts cb).take i)).1 (runs (((KBw.bInts zb).take pos).sum % 255, wsum ((KBw.bInts zb).take pos) % 255) ((KBw.bInts cb).take i)).2)
    (env := envF L a cd) hh (F3.push (baObj cb)) (News.pushKeep N3 (baObj cb)) (Heap.get?_push_size _ rfl) (Nat.ne_of_gt F3.ns.lt) (fun p hp e => absurd (Heap.lt_size (N3 p hp).1) (e ▸ Nat.lt_irrefl _)) ⟨rfl, T2, S2⟩ ?_ ?_
  · rintro i k' t m' news' hb tkb own hk h0 h255 ⟨rfl, T', S'⟩ Fb Nb
    have Fb' : Fr h₀ L hb (set1 m' "d" (.int k' t)) := Fb
    have Sb := S'.other (x := "d") (v := .int k' t) (by decide)
    have Tb := T'.ne (x := "d") (v := .int k' t) (by decide)
    have Db : HasI (set1 m' "d" (.int k' t)) "d" k' := .eq
    obtain ⟨t0, hc0⟩ := Sb.c0
    refine do_next (do_add (env := envF L a cd) hc0 (ev_has Db Fb'.ns) Fb' Nb fun t4 h4 k4 F4 N4 => ⟨rfl, ?_⟩)
    have S4 := Sb.setC0 (i := (runs (((KBw.bInts zb).take pos).sum % 255, wsum ((KBw.bInts zb).take pos) % 255) ((KBw.bInts cb).take i)).1 + k') (t := t4)
    have T4 := Tb.ne (x := "c0") (v := .int ((runs (((KBw.bInts zb).take pos).sum % 255, wsum ((KBw.bInts zb).take pos) % 255) ((KBw.bInts cb).take i)).1 + k') t4) (by decide)
    obtain ⟨t1', hc1⟩ := S4.c1
    refine do_next (do_add (env := envF L a cd) hc1 (ev_has S4.c0 F4.ns) F4 N4 fun t5 h5 k5 F5 N5 => ⟨rfl, wpAny_execs_nil ?_⟩)
    have S5 := S4.setC1 (i := (runs (((KBw.bInts zb).take pos).sum % 255, wsum ((KBw.bInts zb).take pos) % 255) ((KBw.bInts cb).take i)).2 + ((runs (((KBw.bInts zb).take pos).sum % 255, wsum ((KBw.bInts zb).take pos) % 255) ((KBw.bInts cb).take i)).1 + k')) (t := t5)
    have T5 := T4.ne (x := "c1") (v := .int ((runs (((KBw.bInts zb).take pos).sum % 255, wsum ((KBw.bInts zb).take pos) % 255) ((KBw.bInts cb).take i)).2 + ((runs (((KBw.bInts zb).take pos).sum % 255, wsum ((KBw.bInts zb).take pos) % 255) ((KBw.bInts cb).take i)).1 + k')) t5) (by decide)
    have hstep : (KBw.bInts cb).take (i + 1) = (KBw.bInts cb).take i ++ [k'] := by rw [List.take_add_one, hk]; rfl
    refine InvEndN.intro F5 N5 ⟨rfl, T5, ?_⟩ rfl (fun p hp => List.mem_append_left _ hp) (fun p hp => List.mem_append_right _ hp)
    rw [hstep]
    unfold runs at S5 ⊢
    rw [List.foldl_append]
    exact S5
  · rintro m' news' h4 k4 ⟨rfl, T', S'⟩ F4 N4
    have hfull : (KBw.bInts cb).take cb.size = KBw.bInts cb := List.take_of_length_le (by rw [KBw.ints_length]; exact Nat.le_refl _)
    rw [hfull, runs_eq, hcl, hcbI] at S'
    refine ⟨rfl, ?_⟩
    -- c0 %= 255; c1 %= 255; pos += tlen
    obtain ⟨t0, hc0⟩ := S'.c0
    refine do_next (do_mod (env := envF L a cd) hc0 ev_const (by decide) F4 N4 fun t5 h5 k5 F5 N5 => ⟨rfl, ?_⟩)
    have S5 := S'.setC0 (i := ((((KBw.bInts zb).take pos).sum % 255, wsum ((KBw.bInts zb).take pos) % 255).1 + (((KBw.bInts zb).drop pos).take tl).sum).fmod 255) (t := t5)
    have T5 := T'.ne (x := "c0") (v := .int (((((KBw.bInts zb).take pos).sum % 255, wsum ((KBw.bInts zb).take pos) % 255).1 + (((KBw.bInts zb).drop pos).take tl).sum).fmod 255) t5) (by decide)
    obtain ⟨t1', hc1⟩ := S5.c1
    refine do_next (do_mod (env := envF L a cd) hc1 ev_const (by decide) F5 N5 fun t6 h6 k6 F6 N6 => ⟨rfl, ?_⟩)
    have S6 := S5.setC1 (i := ((((KBw.bInts zb).take pos).sum % 255, wsum ((KBw.bInts zb).take pos) % 255).2 + (((KBw.bInts zb).take pos).sum % 255, wsum ((KBw.bInts zb).take pos) % 255).1 * (tl : Int) + wsum (((KBw.bInts zb).drop pos).take tl)).fmod 255) (t := t6)
    have T6 := T5.ne (x := "c1") (v := .int (((((KBw.bInts zb).take pos).sum % 255, wsum ((KBw.bInts zb).take pos) % 255).2 + (((KBw.bInts zb).take pos).sum % 255, wsum ((KBw.bInts zb).take pos) % 255).1 * (tl : Int) + wsum (((KBw.bInts zb).drop pos).take tl)).fmod 255) t6) (by decide)
    obtain ⟨tp, hpos⟩ := S6.pos
    refine do_next (do_add (env := envF L a cd) hpos (ev_has T6 F6.ns) F6 N6 fun t7 h7 k7 F7 N7 => ⟨rfl, wpAny_execs_nil ?_⟩)
    have S7 := S6.setPos (i := (pos : Int) + (tl : Int)) (t := t7)
    have hcs2 := chunk_sums (KBw.bInts zb) pos tl (by rw [hzl]; exact htl1)
    refine hq h7 k7 _ tl htl0 htl1 F7 N7 (S7.cast ?_ ?_ ?_)
    · push_cast; rfl
    · rw [Int.fmod_eq_emod_of_nonneg _ (by decide)]; exact hcs2.1
    · rw [Int.fmod_eq_emod_of_nonneg _ (by decide)]; exact hcs2.2
end
end Mine

namespace Mine
open Builtin
set_option maxRecDepth 100000

/-- two octets put together -/
theorem octets_or {x y : Int} (hx : 1 ≤ x) (hx' : x ≤ 255) (hy : 1 ≤ y) (hy' : y ≤ 255) : Builtin.bitOr (x * 2 ^ (8 : Int).toNat) (Builtin.bitAnd y 255) = 256 * x + y := by
  have e1 : Builtin.bitAnd y 255 = y := by
    rw [bitAnd_pp (by omega) (by decide)]
    have : y.toNat &&& (255 : Int).toNat = y.toNat % 2 ^ 8 := Nat.and_two_pow_sub_one_eq_mod y.toNat 8
    rw [this]
    omega
  rw [e1, bitOr_and]
  have e2 : x * 2 ^ (8 : Int).toNat = ((2 ^ 8 * x.toNat : Nat) : Int) := by
    have : (2 : Int) ^ (8 : Int).toNat = 256 := by decide
    rw [this]
    push_cast
    omega
  have e3 : Builtin.bitAnd (x * 2 ^ (8 : Int).toNat) y = 0 := by
    rw [e2, bitAnd_pp (by omega) (by omega), Int.toNat_natCast]
    have : 2 ^ 8 * x.toNat &&& y.toNat = 0 := by
      apply Nat.eq_of_testBit_eq
      intro i
      rw [Nat.testBit_and, Nat.testBit_two_pow_mul, Nat.zero_testBit]
      by_cases h : 8 ≤ i
      · have hlt : y.toNat < 2 ^ i := Nat.lt_of_lt_of_le (by omega : y.toNat < 2 ^ 8) (Nat.pow_le_pow_right (by decide) h)
        rw [Nat.testBit_lt_two_pow hlt, Bool.and_false]
      · simp [h]
    rw [this]
    rfl
  rw [e3, e2]
  push_cast
  omega

section
variable {prog : Program} {w : World} {A : Around} {s : Shared} {h₀ : Heap} {mg mb : PySem.Str → Option Value} {L a D : Addr} {cd : Value} {zb : Array UInt8} {n off : Int} {Q : Flow → Shared → Prop}

theorem fl_loop {m : PySem.Str → Option Value} (hh : A.handled = none) (G : Glb mg mb h₀) (F : Fr h₀ L s.heap m) (N : News h₀ L s.heap [(D, baObj zb)])
    (hz : zb.size ≤ 16777216) (hn : n = zb.size) (S : FlS m D n off 0 0 0)
    (hq : ∀ h k m', Fr h₀ L h m' → News h₀ L h [(D, baObj zb)] → FlS m' D n off n ((KBw.bInts zb).sum % 255) (wsum (KBw.bInts zb) % 255) → Q .next { s with heap := h, toks := k }) :
    wpAny (model prog w) A (exec flW (envF L a cd)) Q (fun _ _ => False) s := by
  refine While_inv (h₀ := h₀) (L := L) (test := whTest flW) (body := whBody flW) (n₀ := zb.size)
    (fun k m news => ∃ pos : Nat, k = zb.size - pos ∧ pos ≤ zb.size ∧ news = [(D, baObj zb)] ∧ FlS m D n off pos (((KBw.bInts zb).take pos).sum % 255) (wsum ((KBw.bInts zb).take pos) % 255))
    F N ⟨0, rfl, Nat.zero_le _, rfl, S.cast rfl rfl rfl⟩ ?_
  rintro k m₁ news₁ h₁ tk₁ F₁ N₁ ⟨pos, rfl, hle, rfl, S₁⟩
  have ht : Tst prog w A (envF L a cd) h₁ (whTest flW) (decide ((pos : Int) < n)) := tst_lt (ev_has S₁.pos F₁.ns) (ev_has S₁.len F₁.ns)
  refine ht _ _ { s with heap := h₁, toks := tk₁ } rfl fun k => ?_
  by_cases hlt : (pos : Int) < n
  · rw [decide_eq_true hlt, if_pos rfl]
    refine fl_turn (G := G) (s := s) hh F₁ N₁ hz hn (by omega) S₁ fun h' k' m' tl h0 h1 F' N' S' => ?_
    exact WhileStep.intro F' N' (n' := zb.size - (pos + tl)) (by omega) ⟨pos + tl, rfl, h1, rfl, S'⟩
  · rw [decide_eq_false hlt, if_neg (by decide)]
    have e : pos = zb.size := by omega
    have hf : (KBw.bInts zb).take pos = KBw.bInts zb := List.take_of_length_le (by rw [KBw.ints_length, e]; exact Nat.le_refl _)
    rw [hf] at S₁
    exact hq h₁ k m₁ F₁ N₁ (S₁.cast (by omega) rfl rfl)

theorem fl_tail {m : PySem.Str → Option Value} (F : Fr h₀ L s.heap m) (N : News h₀ L s.heap [(D, baObj zb)])
    (hz : zb.size ≤ 16777216) (hn : n = zb.size) (h0 : 0 ≤ off) (h1 : off + 2 ≤ n) (S : FlS m D n off n ((KBw.bInts zb).sum % 255) (wsum (KBw.bInts zb) % 255))
    (hq : ∀ h k t, (∀ c o, h₀.get? c = some o → h.get? c = some o) → Q (.ret (.int (toldOf (KBw.bInts zb) off) t)) { s with heap := h, toks := k }) :
    wpAny (model prog w) A (execs (flBody.drop 7) (envF L a cd)) Q (fun _ _ => False) s := by
  have hzl : (KBw.bInts zb).length = zb.size := KBw.ints_length zb
  have hr := hi_range (KBw.bInts zb) off
  have hl := lo_range (KBw.bInts zb) off
  have hxd : hiOf (KBw.bInts zb) off = xOf n off ((KBw.bInts zb).sum % 255) (wsum (KBw.bInts zb) % 255) := by unfold hiOf; rw [hzl, hn]
  have hyd : loOf (KBw.bInts zb) off = yOf ((KBw.bInts zb).sum % 255) (hiOf (KBw.bInts zb) off) := rfl
  unfold toldOf at hq
  generalize hiOf (KBw.bInts zb) off = x at hr hxd hyd hq
  generalize loOf (KBw.bInts zb) off = y at hl hyd hq
  generalize hc0 : (KBw.bInts zb).sum % 255 = c0 at S hxd hyd
  generalize hc1 : wsum (KBw.bInts zb) % 255 = c1 at S hxd
  refine do_next (do_int (env := envF L a cd) (ev_mod (ev_sub (ev_mul (ev_sub (ev_sub (ev_has S.len F.ns) (ev_has S.off F.ns)) ev_const) (ev_has S.c0 F.ns) (by omega)) (ev_has S.c1 F.ns)) ev_const (by decide)) F N fun t h2 k2 F2 N2 => ⟨rfl, ?_⟩)
  have S2 := S.other (x := "x") (v := .int (((n - off - 1) * c0 - c1).fmod 255) t) (by decide)
  have X2 : HasI (set1 m "x" (.int (((n - off - 1) * c0 - c1).fmod 255) t)) "x" (((n - off - 1) * c0 - c1) % 255) := HasI.eq.cast (Int.fmod_eq_emod_of_nonneg _ (by decide))
  generalize set1 m "x" (.int (((n - off - 1) * c0 - c1).fmod 255) t) = m2 at F2 S2 X2
  have rest : ∀ (h : Heap) (k : Nat) (m : PySem.Str → Option Value), Fr h₀ L h m → News h₀ L h [(D, baObj zb)] → FlS m D n off n c0 c1 → HasI m "x" x → wpAny (model prog w) A (execs (flBody.drop 9) (envF L a cd)) Q (fun _ _ => False) { s with heap := h, toks := k } := by
    clear F2 N2 S2 X2 F N S hxd
    intro h k m F N S X
    refine do_next (do_int (env := envF L a cd) (s := { s with heap := h, toks := k }) (ev_sub (ev_sub ev_const (ev_has S.c0 F.ns)) (ev_has X F.ns)) F N fun t h3 k3 F3 N3 => ⟨rfl, ?_⟩)
    have S3 := S.other (x := "y") (v := .int (510 - c0 - x) t) (by decide)
    have X3 := X.ne (x := "y") (v := .int (510 - c0 - x) t) (by decide)
    have Y3 : HasI (set1 m "y" (.int (510 - c0 - x) t)) "y" (510 - c0 - x) := .eq
    generalize set1 m "y" (.int (510 - c0 - x) t) = m3 at F3 S3 X3 Y3
    have rest2 : ∀ (h : Heap) (k : Nat) (m : PySem.Str → Option Value), Fr h₀ L h m → News h₀ L h [(D, baObj zb)] → FlS m D n off n c0 c1 → HasI m "x" x → HasI m "y" y → wpAny (model prog w) A (execs (flBody.drop 11) (envF L a cd)) Q (fun _ _ => False) { s with heap := h, toks := k } := by
      clear F3 N3 S3 X3 Y3 F N S X
      intro h k m F N S X Y
      obtain ⟨tx, hX⟩ := X
      obtain ⟨ty, hY⟩ := Y
      obtain ⟨to, hO⟩ := S.off
      refine do_next (wpAny_Assign_Subscript ((ev_local F.ns hX : Ev prog w A (envF L a cd) h _ _) _ _ { s with heap := h, toks := k } rfl fun v1 k1 hv1 => (ev_local F.ns S.data : Ev prog w A (envF L a cd) h _ _) _ _ { s with heap := h, toks := k1 } rfl fun v2 k2 hv2 => (ev_local F.ns hO : Ev prog w A (envF L a cd) h _ _) _ _ { s with heap := h, toks := k2 } rfl fun v3 k3 hv3 => ?_))
      subst hv1 hv2 hv3
      have hD := (N _ (.head _)).1
      have hDL := (N _ (.head _)).2.1
      have hDn := (N _ (.head _)).2.2
      refine ba_setInt (s := { s with heap := h, toks := k3 }) hD (by omega) (by omega) hz (by omega) (by omega) fun h4 hD4 hs4 => ⟨rfl, ?_⟩
      have F4 := F.change hs4 hDL hDn
      refine do_next (wpAny_Assign_Subscript ((ev_local F4.ns hY : Ev prog w A (envF L a cd) h4 _ _) _ _ { s with heap := h4, toks := k3 } rfl fun v1 k1 hv1 => (ev_local F4.ns S.data : Ev prog w A (envF L a cd) h4 _ _) _ _ { s with heap := h4, toks := k1 } rfl fun v2 k2 hv2 => (ev_add (ev_int F4.ns hO) ev_const : Ev prog w A (envF L a cd) h4 _ _) _ _ { s with heap := h4, toks := k2 } rfl fun v3 k3 hv3 => ?_))
      subst hv1 hv2
      obtain ⟨t3, rfl⟩ := hv3
      refine ba_setInt (s := { s with heap := h4, toks := k3 }) hD4 (by omega) (by rw [Array.size_setIfInBounds]; omega) (by rw [Array.size_setIfInBounds]; exact hz) (by omega) (by omega) fun h5 hD5 hs5 => ⟨rfl, ?_⟩
      have F5 := F4.change hs5 hDL hDn
      refine wpAny_execs_cons (wpAny_Return_some ((ev_or (ev_shl (ev_int F5.ns hX) ev_const (by decide) (by decide) (by omega)) (ev_and (ev_int F5.ns hY) ev_const) : Ev prog w A (envF L a cd) h5 _ _) _ _ { s with heap := h5, toks := k3 } rfl fun v k hv => ?_))
      obtain ⟨t, rfl⟩ := hv
      rw [octets_or hr.1 hr.2 hl.1 hl.2]
      exact hq _ _ _ F5.keep
    refine do_next (do_if (tst_gt (ev_has Y3 F3.ns) ev_const : Tst prog w A (envF L a cd) h3 _ _) (fun hc k => ?_) (fun hc k => ?_))
    · obtain ⟨ty, hY⟩ := Y3
      refine do_next (do_sub (env := envF L a cd) (s := { s with heap := h3, toks := k }) hY ev_const F3 N3 fun t h4 k4 F4 N4 => ⟨rfl, wpAny_execs_nil ⟨rfl, ?_⟩⟩)
      refine rest2 h4 k4 _ F4 N4 (S3.other (by decide)) (X3.ne (by decide)) (HasI.eq.cast ?_)
      rw [hyd, yOf, if_pos (of_decide_eq_true hc)]
    · refine wpAny_execs_nil ⟨rfl, rest2 h3 k m3 F3 N3 S3 X3 (Y3.cast ?_)⟩
      rw [hyd, yOf, if_neg (of_decide_eq_false hc)]
  refine do_next (do_if (tst_le (ev_has X2 F2.ns) ev_const : Tst prog w A (envF L a cd) h2 _ _) (fun hc k => ?_) (fun hc k => ?_))
  · obtain ⟨tx, hX⟩ := X2
    refine do_next (do_add (env := envF L a cd) (s := { s with heap := h2, toks := k }) hX ev_const F2 N2 fun t h4 k4 F4 N4 => ⟨rfl, wpAny_execs_nil ⟨rfl, ?_⟩⟩)
    refine rest h4 k4 _ F4 N4 (S2.other (by decide)) (HasI.eq.cast ?_)
    rw [hxd, xOf, if_pos (of_decide_eq_true hc)]
  · refine wpAny_execs_nil ⟨rfl, rest h2 k m2 F2 N2 S2 (X2.cast ?_)⟩
    rw [hxd, xOf, if_neg (of_decide_eq_false hc)]
end
end Mine

namespace Mine
open Builtin
set_option maxRecDepth 100000

section
variable {prog : Program} {w : World} {A : Around} {E : Value → Shared → Prop} {s : Shared} {h₀ : Heap} {env : Env} {L : Addr} {m : PySem.Str → Option Value} {news : List (Addr × Obj)} {e1 e2 : Expr} {p p' : Pos} {a n : Int}

/-- [e1] * e2 -/
theorem ev_times {Q : Value → Shared → Prop} (F : Fr h₀ L s.heap m) (N : News h₀ L s.heap news) (h1 : Ev prog w A env s.heap e1 (IsI a)) (h2 : ∀ o, Ev prog w A env (s.heap.push o) e2 (IsI n)) (h0 : 0 ≤ n) (hx : n ≤ 1048576)
    (hq : ∀ t l h' k, Fr h₀ L h' m → News h₀ L h' ((l, listOf (List.replicate n.toNat (Value.int a t)).toArray 0) :: news) → (∀ c o, s.heap.get? c = some o → h'.get? c = some o) → s.heap.get? l = none → Q (.ref l) { s with heap := h', toks := k })
    (he : starEach [e1] env = [(false, eval e1 env)] := by rfl) : wpAny (model prog w) A (eval (.BinOp (.List [e1] p) .Mult e2 p') env) Q E s := by
  refine wpAny_BinOp (wpAny_List ?_)
  rw [he]
  refine spliced_cons (h1 _ _ s rfl fun v k hv => wpAny_pure ⟨by simp [sizeLine_eq], ?_⟩)
  obtain ⟨t, rfl⟩ := hv
  refine h2 _ _ _ { s with heap := s.heap.push _, toks := k } rfl fun v2 k2 hv2 => ?_
  obtain ⟨t2, rfl⟩ := hv2
  refine list_times (s := { s with heap := s.heap.push _, toks := k2 }) (n := 0) (Heap.get?_push_size _ rfl) h0 hx ?_
  refine hq t _ _ k2 ((F.push _).push _) (News.push (F.push _) (News.pushKeep N _) _) (fun c o e => Heap.get?_push_of_some _ (Heap.get?_push_of_some _ e)) ?_
  refine Heap.get?_none_of_le ?_
  rw [Heap.size_push]
  exact Nat.le_succ _
end

theorem bInts_struck (b : Array UInt8) (lo : Nat) (h : lo + 2 ≤ b.size) : KBw.bInts (b.extract 0 lo ++ byteArr [0, 0] ++ b.extract (lo + 2) b.size) = struck (KBw.bInts b) lo := by
  rw [struck_cut _ _ (by rw [KBw.ints_length]; exact h)]
  unfold KBw.bInts
  simp only [Array.toList_append, Array.toList_extract, List.map_append, List.extract_eq_take_drop, List.drop_zero, List.map_take, List.map_drop, Nat.sub_zero]
  have e : (List.map (fun c : UInt8 => (c.toNat : Int)) (byteArr [0, 0]).toList) = [0, 0] := by rfl
  rw [e]
  have e2 : List.take (b.size - (lo + 2)) (List.drop (lo + 2) (List.map (fun c : UInt8 => (c.toNat : Int)) b.toList)) = List.drop (lo + 2) (List.map (fun c : UInt8 => (c.toNat : Int)) b.toList) :=
    List.take_of_length_le (by simp)
  rw [e2]

/-- what the function is handed -/
inductive BaIn (h : Heap) : Value → Array UInt8 → Prop where
  | ba {a : Addr} {b : Array UInt8} : h.get? a = some (baObj b) → BaIn h (.ref a) b
  | bytes {b : Array UInt8} {t : Tok} : BaIn h (.bytes b t) b
theorem BaIn.src {h : Heap} {v : Value} {b : Array UInt8} (x : BaIn h v b) : BaSrc h v b := by
  cases x with
  | ba e => exact .ba e
  | bytes => exact .bytes
theorem BaIn.keeps {h h' : Heap} {v : Value} {b : Array UInt8} (x : BaIn h v b) (k : ∀ a o, h.get? a = some o → h'.get? a = some o) : BaIn h' v b := by
  cases x with
  | ba e => exact .ba (k _ _ e)
  | bytes => exact .bytes

section
variable {prog : Program} {w : World} {A : Around} {s : Shared} {h₀ : Heap} {mg mb : PySem.Str → Option Value} {L a : Addr} {cd src : Value} {b : Array UInt8} {off : Int} {Q : Flow → Shared → Prop}

theorem BaIn.len {E : Value → Shared → Prop} {Q : Value → Shared → Prop} (x : BaIn s.heap src b) (hz : b.size ≤ 16777216) (hq : ∀ t k, Q (.int b.size t) { s with toks := k }) : wpAny (model prog w) A (call (.builtin "len") [src]) Q E s := by
  cases x with
  | ba e => exact ba_len e (by omega) hq
  | bytes => exact len_bytes (by omega) (hq _ _)

theorem fl_body {m : PySem.Str → Option Value} (hh : A.handled = none) (hg : A.guards = some []) (G : Glb mg mb h₀) (F : Fr h₀ L s.heap m)
    (x : BaIn h₀ src b) (hz : b.size ≤ 16777216) (h0 : 0 ≤ off) (hoff : off + 2 ≤ b.size) (hd : m "data" = some src) (ho : HasI m "offset" off)
    (hq : ∀ h k t, (∀ c o, h₀.get? c = some o → h.get? c = some o) → Q (.ret (.int (toldOf (struck (KBw.bInts b) off.toNat) off) t)) { s with heap := h, toks := k }) :
    wpC (model prog w) A (execs flBody (envF L a cd)) Q (fun _ _ => False) s := by
  have N : News h₀ L s.heap [] := .nil
  refine doC_any (do_int (env := envF L a cd) ev_const F N fun t1 h1 k1 F1 N1 => ⟨rfl, ?_⟩)
  have C1 : HasI (set1 m "c0" (.int 0 t1)) "c0" 0 := .eq
  have D1 : set1 m "c0" (.int 0 t1) "data" = some src := set1_ne (by decide) hd
  have O1 : HasI (set1 m "c0" (.int 0 t1)) "offset" off := ho.ne (by decide)
  generalize set1 m "c0" (.int 0 t1) = m1 at F1 C1 D1 O1
  refine doC_any (do_int (env := envF L a cd) (s := { s with heap := h1, toks := k1 }) ev_const F1 N1 fun t2 h2 k2 F2 N2 => ⟨rfl, ?_⟩)
  have C2 : HasI (set1 m1 "c1" (.int 0 t2)) "c0" 0 := C1.ne (by decide)
  have E2 : HasI (set1 m1 "c1" (.int 0 t2)) "c1" 0 := .eq
  have D2 : set1 m1 "c1" (.int 0 t2) "data" = some src := set1_ne (by decide) D1
  have O2 : HasI (set1 m1 "c1" (.int 0 t2)) "offset" off := O1.ne (by decide)
  generalize set1 m1 "c1" (.int 0 t2) = m2 at F2 C2 D2 O2 E2
  refine doC_any (do_int (env := envF L a cd) (s := { s with heap := h2, toks := k2 }) ev_const F2 N2 fun t3 h3 k3 F3 N3 => ⟨rfl, ?_⟩)
  have C3 : HasI (set1 m2 "pos" (.int 0 t3)) "c0" 0 := C2.ne (by decide)
  have E3 : HasI (set1 m2 "pos" (.int 0 t3)) "c1" 0 := E2.ne (by decide)
  have P3 : HasI (set1 m2 "pos" (.int 0 t3)) "pos" 0 := .eq
  have D3 : set1 m2 "pos" (.int 0 t3) "data" = some src := set1_ne (by decide) D2
  have O3 : HasI (set1 m2 "pos" (.int 0 t3)) "offset" off := O2.ne (by decide)
  generalize set1 m2 "pos" (.int 0 t3) = m3 at F3 C3 D3 O3 E3 P3
  -- length = len(data)
  refine doC_any (wpAny_Assign_Name (eval_call1 (id := "len") (s := { s with heap := h3, toks := k3 }) (ev_builtin (G.g.keeps F3.keep) G.gl.1 (G.b.keeps F3.keep) G.bl.1) (ev_local F3.ns D3) fun v k hv => ?_))
  rw [hv]
  refine (x.keeps F3.keep).len (s := { s with heap := h3, toks := k }) hz fun t4 k4 => ?_
  refine store1 (env := envF L a cd) (s := { s with heap := h3, toks := k4 }) F3 N3 fun h5 F5 N5 _ => ⟨rfl, ?_⟩
  have C5 : HasI (set1 m3 "length" (.int b.size t4)) "c0" 0 := C3.ne (by decide)
  have E5 : HasI (set1 m3 "length" (.int b.size t4)) "c1" 0 := E3.ne (by decide)
  have P5 : HasI (set1 m3 "length" (.int b.size t4)) "pos" 0 := P3.ne (by decide)
  have L5 : HasI (set1 m3 "length" (.int b.size t4)) "length" b.size := .eq
  have D5 : set1 m3 "length" (.int b.size t4) "data" = some src := set1_ne (by decide) D3
  have O5 : HasI (set1 m3 "length" (.int b.size t4)) "offset" off := O3.ne (by decide)
  generalize set1 m3 "length" (.int b.size t4) = m5 at F5 C5 D5 O5 E5 P5 L5
  -- data = bytearray(data)
  refine doC_next (wpC_Assign_Name (evalC_callT (T := "bytearray") (s := { s with heap := h5, toks := k4 + 1 }) (ev_builtin (G.g.keeps F5.keep) G.gl.2.2.1 (G.b.keeps F5.keep) G.bl.2.2.1) (ev_local F5.ns D5) fun v k hv => ?_))
  rw [hv]
  refine ba_make (s := { s with heap := h5, toks := k }) hg (x.keeps F5.keep).src (by rw [sizeLine_eq]; exact hz) fun h6 hD6 hk6 => ?_
  have F6 := F5.keptAll hk6
  have N6 : News h₀ L h6 [(h5.objs.size, baObj b)] := fun q hq => by
    rw [List.mem_singleton] at hq
    subst hq
    exact ⟨hD6, Nat.ne_of_gt F5.ns.lt, next_is_new F5⟩
  generalize h5.objs.size = D at N6 hD6 ⊢
  refine store1 (env := envF L a cd) (s := { s with heap := h6, toks := k }) F6 N6 fun h7 F7 N7 _ => ⟨rfl, ?_⟩
  have S7 : FlS (set1 m5 "data" (.ref D)) D b.size off 0 0 0 := ⟨set1_eq, O5.ne (by decide), L5.ne (by decide), P5.ne (by decide), C5.ne (by decide), E5.ne (by decide)⟩
  generalize set1 m5 "data" (.ref D) = m7 at F7 S7
  -- data[offset:offset + 2] = [0] * 2
  refine doC_next (wpC_Assign_Subscript (ev_times (s := { s with heap := h7, toks := k + 1 }) (a := 0) (n := 2) F7 N7 ev_const (fun o => ev_const) (by decide) (by decide) fun t8 l h8 k8 F8 N8 hk8 hl8 => ?_))
  refine (ev_local F8.ns S7.data : Ev prog w A (envF L a cd) h8 _ _) _ _ { s with heap := h8, toks := k8 } rfl fun v k hv => ?_
  subst hv
  refine wpAny_Slice ((ev_has S7.off F8.ns : Ev prog w A (envF L a cd) h8 _ _) _ _ { s with heap := h8, toks := k } rfl fun v1 k1 hv1 => (ev_add (ev_has S7.off F8.ns) ev_const : Ev prog w A (envF L a cd) h8 _ _) _ _ { s with heap := h8, toks := k1 } rfl fun v2 k2 hv2 => wpAny_pure ?_)
  obtain ⟨u1, rfl⟩ := hv1
  obtain ⟨u2, rfl⟩ := hv2
  have F9 := F8.push { cls := .type "slice", data := .fields #[.int off u1, .int (off + 2) u2, .none] }
  have N9 := News.pushKeep N8 { cls := .type "slice", data := .fields #[.int off u1, .int (off + 2) u2, .none] }
  have hsl : (h8.push { cls := .type "slice", data := .fields #[.int off u1, .int (off + 2) u2, .none] }).IsSliceOf h8.objs.size (.int off u1) (.int (off + 2) u2) .none := Heap.IsSliceOf.new _ _ _ _
  show wpC _ _ _ _ _ { s with heap := h8.push { cls := .type "slice", data := .fields #[.int off u1, .int (off + 2) u2, .none] }, toks := k2 }
  generalize h8.push { cls := .type "slice", data := .fields #[.int off u1, .int (off + 2) u2, .none] } = h9 at F9 N9 hsl ⊢
  have hD9 := (N9 _ (.tail _ (.head _))).1
  have hDL := (N9 _ (.tail _ (.head _))).2.1
  have hDn := (N9 _ (.tail _ (.head _))).2.2
  refine ba_setSlice (s := { s with heap := h9, toks := k2 }) (vs := List.replicate 2 (Value.int 0 t8)) (ns := [0, 0]) hg hD9 hsl (News.isList N9 (.head _)) (.cons 0 t8 (.cons 0 t8 .nil)) (by intro n hn; simp at hn; omega) (by simp only [List.length_cons, List.length_nil]; omega) h0 (by omega) hoff hz
    fun h10 hD10 hk10 => ⟨rfl, ?_⟩
  have e2 : (off + 2).toNat = off.toNat + 2 := by omega
  rw [e2] at hD10
  have hst := bInts_struck b off.toNat (by omega)
  have hsz : (b.extract 0 off.toNat ++ byteArr [0, 0] ++ b.extract (off.toNat + 2) b.size).size = b.size := by
    rw [← KBw.ints_length, hst, struck_length, KBw.ints_length]
  generalize b.extract 0 off.toNat ++ byteArr [0, 0] ++ b.extract (off.toNat + 2) b.size = zb at hD10 hst hsz
  have F10 : Fr h₀ L h10 m7 := ⟨?_, fun c o e => ?_, F9.above⟩
  · have N10 : News h₀ L h10 [(D, baObj zb)] := fun q hq => by
      rw [List.mem_singleton] at hq
      subst hq
      exact ⟨hD10, hDL, hDn⟩
    -- the loop, the rest
    have hbz : ((b.size : Nat) : Int) = zb.size := by rw [hsz]
    rw [← hst] at hq
    refine doC_any (fl_loop (G := G) (s := { s with heap := h10, toks := k2 }) hh F10 N10 (by omega) hbz S7 fun h11 k11 m11 F11 N11 S11 => ⟨rfl, ?_⟩)
    exact wpC_any (fl_tail (s := { s with heap := h11, toks := k11 }) F11 N11 (by omega) hbz h0 (by omega) S11 fun h12 k12 t12 hk12 => hq h12 k12 t12 hk12)
  · exact F9.ns.at fun o e => hk10 _ _ (Ne.symm hDL) e
  · refine hk10 c o (fun e' => ?_) (F9.keep c o e)
    subst e'
    rw [hDn] at e
    cases e
end
end Mine

namespace Mine
open Builtin
set_option maxRecDepth 100000

theorem ints_replicate (a : Int) (t : Tok) : ∀ n : Nat, IntsAre (List.replicate n (Value.int a t)) (List.replicate n a)
  | 0 => .nil
  | n + 1 => .cons a t (ints_replicate a t n)

/-! ## calls of the function -/
section
variable {prog : Program} {w : World} {A : Around} {E : Value → Shared → Prop} {s : Shared} {mg mb : PySem.Str → Option Value} {af : Addr} {fo : Obj} {pm cd doc src : Value} {b : Array UInt8} {off : Int} {t : Tok} {Q : Value → Shared → Prop}

/-- the function's object -/
structure FnAt (h : Heap) (af : Addr) (fo : Obj) (pm cd doc : Value) : Prop where
  get : h.get? af = some fo
  data : fo.data = .func (docDef "fletcher_checksum" flParams flBody flScope pm cd doc)
  code : h.CodeRec cd "fletcher_checksum"
theorem FnAt.keeps {h h' : Heap} (X : FnAt h af fo pm cd doc) (k : ∀ a o, h.get? a = some o → h'.get? a = some o) : FnAt h' af fo pm cd doc := ⟨k _ _ X.get, X.data, X.code.keeps k⟩

theorem fl_call (hroom : A.depth < recursionLimit) (hh : A.handled = none) (hg : A.guards = some []) (X : FnAt s.heap af fo pm cd doc) (G : Glb mg mb s.heap)
    (x : BaIn s.heap src b) (hz : b.size ≤ 16777216) (h0 : 0 ≤ off) (h1 : off + 2 ≤ b.size)
    (hq : ∀ h k u, (∀ c o, s.heap.get? c = some o → h.get? c = some o) → Q (.int (toldOf (struck (KBw.bInts b) off.toNat) off) u) { s with heap := h, toks := k }) :
    codeC (model prog w) A (.call (.ref af) ⟨[src, .int off t], []⟩) (wants Q E) s := by
  refine codeC_def (binds := [("data", src), ("offset", .int off t)]) hroom X.get X.data G.nolimit X.code rfl (BindsTo.of_eq (by rfl)) (show ∀ x ∈ flScope.names, x.2 ≠ .cell by decide) (by
    intro y hy
    simp only [List.mem_cons, List.not_mem_nil, or_false] at hy
    rcases hy with rfl | rfl <;> rfl) fun h₀ F => ?_
  refine fl_body (L := s.heap.objs.size) (a := af) (cd := cd) (s := { s with heap := h₀, toks := s.toks + 2 }) (m := fun x => ([("data", src), ("offset", Value.int off t)] : List (PySem.Str × Value)).reverse.lookup x) hh hg G F x hz h0 h1 rfl ⟨t, rfl⟩ fun h k u hk => ?_
  exact hq h k u hk
end
end Mine

namespace Mine
open Builtin
set_option maxRecDepth 100000

def lawBody : List Stmt := defBody lawSt
def lawScope : Scope := defScope lawSt
def lawParams : Arguments := defParams lawSt
abbrev envL (L a : Addr) (cd : Value) : Env := envOf (PySem.Str.ofString "law") lawScope L a cd

section
variable {prog : Program} {w : World} {A : Around} {env : Env} {H : Heap} {l : Addr} {vs : List Value} {ns : List Int} {e : Expr} {mg mb : PySem.Str → Option Value} {p pos : Pos}
theorem tst_list (hv : Ev prog w A env H e (· = .ref l)) (hl : H.IsList l vs.toArray) (hi : IntsAre vs ns) (hfit : ns.length < 2 ^ 62)
    (he : isTrue e env (eval e env) = (do let v ← eval e env; standAt e.pos; holding [v] (truthy v)) := by rfl) : Tst prog w A env H e (decide (0 < ns.length)) := fun E Q s hs hq => by
  refine wpAny_isTrue_value (hv _ _ s hs fun v k hv => ?_) he
  subst hv
  exact truthy_ints_fit (s := { s with toks := k }) (hs ▸ hl) hi hfit (hq _)
theorem ev_len (hf : Ev prog w A env H (.Name "len" p) (· = .builtin "len")) (hv : Ev prog w A env H e (· = .ref l)) (hl : H.IsList l vs.toArray) (hi : IntsAre vs ns) (hfit : ns.length < 2 ^ 62)
    (he : starEach [e] env = [(false, eval e env)] := by rfl) : Ev prog w A env H (.Call (.Name "len" p) [e] [] pos) (IsI ns.length) := fun E Q s hs hq => by
  subst hs
  refine eval_call1 (id := "len") hf hv (fun v k hv => ?_) he
  subst hv
  exact len_ints_fit (s := { s with toks := k }) hl hi hfit (hq _ _ ⟨_, rfl⟩)
end

/-- the law's frame -/
structure LawS (m : PySem.Str → Option Value) (R : Addr) (n p W V : Int) : Prop where
  row : m "row" = some (.ref R)
  size : HasI m "size" n
  place : HasI m "place" p
  whole : HasI m "whole" W
  weighed : HasI m "weighed" V
section
variable {m : PySem.Str → Option Value} {R : Addr} {n p W V i : Int} {t : Tok}
theorem LawS.other {x : PySem.Str} {v : Value} (S : LawS m R n p W V)
    (h : ("row" : PySem.Str) ≠ x ∧ ("size" : PySem.Str) ≠ x ∧ ("place" : PySem.Str) ≠ x ∧ ("whole" : PySem.Str) ≠ x ∧ ("weighed" : PySem.Str) ≠ x) : LawS (set1 m x v) R n p W V :=
  ⟨set1_ne h.1 S.row, S.size.ne h.2.1, S.place.ne h.2.2.1, S.whole.ne h.2.2.2.1, S.weighed.ne h.2.2.2.2⟩
theorem LawS.setW (S : LawS m R n p W V) : LawS (set1 m "whole" (.int i t)) R n p i V :=
  ⟨set1_ne (by decide) S.row, S.size.ne (by decide), S.place.ne (by decide), .eq, S.weighed.ne (by decide)⟩
theorem LawS.setV (S : LawS m R n p W V) : LawS (set1 m "weighed" (.int i t)) R n p W i :=
  ⟨set1_ne (by decide) S.row, S.size.ne (by decide), S.place.ne (by decide), S.whole.ne (by decide), .eq⟩
theorem LawS.cast {W' V' : Int} (S : LawS m R n p W V) (e1 : W = W') (e2 : V = V') : LawS m R n p W' V' := by subst e1 e2; exact S
end

section
variable {prog : Program} {w : World} {A : Around} {s : Shared} {h₀ : Heap} {mg mb : PySem.Str → Option Value} {L a sc : Addr} {cd : Value} {vs : List Value} {ns : List Int} {Q : Flow → Shared → Prop}

theorem law_A {m : PySem.Str → Option Value} (G : Glb mg mb h₀) (F : Fr h₀ L s.heap m) (hsc : h₀.IsList sc vs.toArray) (his : IntsAre vs ns) (hlen : ns.length ≤ 63) (hm : m "script" = some (.ref sc))
    (hq : ∀ h k m' R rs ks (p : Int), Fr h₀ L h m' → News h₀ L h [(R, listOf (List.toArray rs) 0)] → IntsAre rs ks → In256 ks → 2 ≤ ks.length → ks.length ≤ 4114 → 0 ≤ p → p + 2 ≤ ks.length → m' "script" = some (.ref sc) →
      LawS m' R ks.length p ks.sum (wsum ks) → wpC (model prog w) A (execs (lawBody.drop 7) (envL L a cd)) Q (fun _ _ => False) { s with heap := h, toks := k }) :
    wpC (model prog w) A (execs lawBody (envL L a cd)) Q (fun _ _ => False) s := by
  have N : News h₀ L s.heap [] := .nil
  -- head
  have hsc0 : s.heap.IsList sc vs.toArray := hsc.at fun o e => F.keep _ _ e
  refine doC_any (do_int (env := envL L a cd) (i := ns.getD 0 0) (ev_ifexp (tst_list (ev_local F.ns hm) hsc0 his (by omega))
    (fun hc => ev_item hsc0 his (ev_local F.ns hm) ev_const (by decide) (by have := of_decide_eq_true hc; omega) (by omega))
    (fun hc => ev_const.weak fun v hv => ?_)) F N fun t h1 k1 F1 N1 => ⟨rfl, ?_⟩)
  · have h0 := of_decide_eq_false hc
    have e : ns = [] := List.eq_nil_of_length_eq_zero (by omega)
    rw [e]
    exact hv
  have M1 : set1 m "head" (.int (ns.getD 0 0) t) "script" = some (.ref sc) := set1_ne (by decide) hm
  have D1 : HasI (set1 m "head" (.int (ns.getD 0 0) t)) "head" (ns.getD 0 0) := .eq
  generalize ns.getD 0 0 = hd at F1 M1 D1
  generalize set1 m "head" (.int hd t) = m1 at F1 M1 D1
  clear N F hsc0 hm t
  -- size
  refine doC_any (do_assign (env := envL L a cd) (s := { s with heap := h1, toks := k1 }) (V := fun v => ∃ n : Nat, 2 ≤ n ∧ n ≤ 4114 ∧ IsI n v) (ev_ifexp (tst_eq (ev_mod (ev_div (ev_has D1 F1.ns) ev_const (by decide) (by decide)) ev_const (by decide)) ev_const)
    (fun _ => (ev_add ev_const (ev_mod (ev_has D1 F1.ns) ev_const (by decide))).weak fun v hv => ?_)
    (fun _ => (ev_add ev_const (ev_mod (ev_has D1 F1.ns) ev_const (by decide))).weak fun v hv => ?_)) F1 N1 fun v h2 k2 hv F2 N2 => ⟨rfl, ?_⟩)
  · have h1 := fmod_lo hd (n := (12 : Int)) (by decide)
    have h2 := fmod_hi hd (n := (12 : Int)) (by decide)
    refine ⟨(4103 + hd.fmod 12).toNat, by omega, by omega, ?_⟩
    rw [Int.toNat_of_nonneg (by omega)]
    exact hv
  · have h1 := fmod_lo hd (n := (60 : Int)) (by decide)
    have h2 := fmod_hi hd (n := (60 : Int)) (by decide)
    refine ⟨(2 + hd.fmod 60).toNat, by omega, by omega, ?_⟩
    rw [Int.toNat_of_nonneg (by omega)]
    exact hv
  obtain ⟨n, hn2, hn1, t, rfl⟩ := hv
  have M2 : set1 m1 "size" (.int n t) "script" = some (.ref sc) := set1_ne (by decide) M1
  have D2 : HasI (set1 m1 "size" (.int n t)) "head" hd := D1.ne (by decide)
  have S2 : HasI (set1 m1 "size" (.int n t)) "size" n := .eq
  generalize set1 m1 "size" (.int n t) = m2 at F2 M2 D2 S2
  clear N1 F1 M1 D1 t
  -- fill
  refine doC_any (do_int (env := envL L a cd) (s := { s with heap := h2, toks := k2 }) (ev_mod (ev_div (ev_has D2 F2.ns) ev_const (by decide) (by decide)) ev_const (by decide)) F2 N2 fun t h3 k3 F3 N3 => ⟨rfl, ?_⟩)
  have hf0 := fmod_lo (hd.fdiv 960) (n := (256 : Int)) (by decide)
  have hf1 := fmod_hi (hd.fdiv 960) (n := (256 : Int)) (by decide)
  generalize hfd : Int.fmod (Int.fdiv hd (960 : Int)) (256 : Int) = f at F3
  have hfd' : (hd.fdiv 960).fmod 256 = f := hfd
  rw [hfd'] at hf0 hf1
  have M3 : set1 m2 "fill" (.int f t) "script" = some (.ref sc) := set1_ne (by decide) M2
  have D3 : HasI (set1 m2 "fill" (.int f t)) "fill" f := .eq
  have S3 : HasI (set1 m2 "fill" (.int f t)) "size" n := S2.ne (by decide)
  generalize set1 m2 "fill" (.int f t) = m3 at F3 M3 D3 S3
  clear N2 F2 M2 D2 S2 t hfd hfd'
  -- place
  have hsc3 : h3.IsList sc vs.toArray := hsc.at fun o e => F3.keep _ _ e
  refine doC_any (do_int (env := envL L a cd) (s := { s with heap := h3, toks := k3 }) (ev_mod (a := if 1 < ns.length then ns.getD 1 0 else 1) (ev_ifexp (tst_gt (ev_len (ev_builtin (G.g.keeps F3.keep) G.gl.1 (G.b.keeps F3.keep) G.bl.1) (ev_local F3.ns M3) hsc3 his (by omega)) ev_const)
    (fun hc => (ev_item hsc3 his (ev_local F3.ns M3) (ev_const) (by decide) (by have := of_decide_eq_true hc; omega) (by omega)).weak fun v hv => ?_)
    (fun hc => ev_const.weak fun v hv => ?_)) (ev_sub (ev_has S3 F3.ns) ev_const) (by omega)) F3 N3 fun t h4 k4 F4 N4 => ⟨rfl, ?_⟩)
  · have h0 := of_decide_eq_true hc
    rw [if_pos (by omega)]
    exact hv
  · have h0 := of_decide_eq_false hc
    rw [if_neg (by omega)]
    exact hv
  have hp0 := fmod_lo (if 1 < ns.length then ns.getD 1 0 else 1) (n := (n : Int) - (1 : Int)) (by omega)
  have hp1 := fmod_hi (if 1 < ns.length then ns.getD 1 0 else 1) (n := (n : Int) - (1 : Int)) (by omega)
  generalize Int.fmod (if 1 < ns.length then ns.getD 1 0 else 1) ((n : Int) - (1 : Int)) = p at F4 hp0 hp1
  have M4 : set1 m3 "place" (.int p t) "script" = some (.ref sc) := set1_ne (by decide) M3
  have D4 : HasI (set1 m3 "place" (.int p t)) "fill" f := D3.ne (by decide)
  have S4 : HasI (set1 m3 "place" (.int p t)) "size" n := S3.ne (by decide)
  have P4 : HasI (set1 m3 "place" (.int p t)) "place" p := .eq
  generalize set1 m3 "place" (.int p t) = m4 at F4 M4 D4 S4 P4
  clear N3 F3 M3 D3 S3 t hsc3
  -- row
  refine doC_any (wpAny_Assign_Name (ev_times (s := { s with heap := h4, toks := k4 }) F4 N4 (ev_has D4 F4.ns) (fun o => ev_has S4 (F4.push o).ns) (by omega) (by omega) fun t R h5 k5 F5 N5 hk5 hR => ?_))
  refine store1 (env := envL L a cd) (s := { s with heap := h5, toks := k5 }) F5 N5 fun h6 F6 N6 _ => ⟨rfl, ?_⟩
  have M6 : set1 m4 "row" (.ref R) "script" = some (.ref sc) := set1_ne (by decide) M4
  have D6 : HasI (set1 m4 "row" (.ref R)) "fill" f := D4.ne (by decide)
  have S6 : HasI (set1 m4 "row" (.ref R)) "size" n := S4.ne (by decide)
  have P6 : HasI (set1 m4 "row" (.ref R)) "place" p := P4.ne (by decide)
  have R6 : set1 m4 "row" (.ref R) "row" = some (.ref R) := set1_eq
  generalize set1 m4 "row" (.ref R) = m6 at F6 M6 D6 S6 P6 R6
  clear N4 F4 M4 D4 S4 P4 N5 F5 hk5 hR
  -- whole
  refine doC_any (do_int (env := envL L a cd) (s := { s with heap := h6, toks := k5 + 1 }) (ev_mul (ev_has D6 F6.ns) (ev_has S6 F6.ns) (by omega)) F6 N6 fun t7 h7 k7 F7 N7 => ⟨rfl, ?_⟩)
  have M7 : set1 m6 "whole" (.int (f * n) t7) "script" = some (.ref sc) := set1_ne (by decide) M6
  have D7 : HasI (set1 m6 "whole" (.int (f * n) t7)) "fill" f := D6.ne (by decide)
  have S7 : HasI (set1 m6 "whole" (.int (f * n) t7)) "size" n := S6.ne (by decide)
  have P7 : HasI (set1 m6 "whole" (.int (f * n) t7)) "place" p := P6.ne (by decide)
  have R7 : set1 m6 "whole" (.int (f * n) t7) "row" = some (.ref R) := set1_ne (by decide) R6
  have W7 : HasI (set1 m6 "whole" (.int (f * n) t7)) "whole" (f * n) := .eq
  generalize set1 m6 "whole" (.int (f * n) t7) = m7 at F7 M7 D7 S7 P7 R7 W7
  clear N6 F6 M6 D6 S6 P6 R6
  -- weighed
  have hfn : (f * (n : Int)).natAbs < 2 ^ 64 := by
    rw [Int.natAbs_mul]
    have h1 : f.natAbs ≤ 256 := by omega
    have h2 : ((n : Int)).natAbs ≤ 4114 := by omega
    exact Nat.lt_of_le_of_lt (Nat.mul_le_mul h1 h2) (by decide)
  refine doC_any (do_int (env := envL L a cd) (s := { s with heap := h7, toks := k7 }) (ev_div (ev_mul (ev_mul (ev_has D7 F7.ns) (ev_has S7 F7.ns) (by omega)) (ev_add (ev_has S7 F7.ns) ev_const) hfn) ev_const (by decide) (by decide)) F7 N7 fun t8 h8 k8 F8 N8 => ⟨rfl, ?_⟩)
  have M8 := set1_ne (v := .int (Int.fdiv (f * (n : Int) * ((n : Int) + (1 : Int))) (2 : Int)) t8) (show ("script" : PySem.Str) ≠ "weighed" by decide) M7
  have L8 : LawS (set1 m7 "weighed" (.int (Int.fdiv (f * (n : Int) * ((n : Int) + (1 : Int))) (2 : Int)) t8)) R n p (f * n) (Int.fdiv (f * (n : Int) * ((n : Int) + (1 : Int))) (2 : Int)) :=
    ⟨set1_ne (by decide) R7, S7.ne (by decide), P7.ne (by decide), W7.ne (by decide), .eq⟩
  have hks : (List.replicate ((n : Int)).toNat f).length = n := by simp
  refine hq h8 k8 _ R _ (List.replicate ((n : Int)).toNat f) p F8 N8 (ints_replicate f t _) ?_ (by omega) (by omega) hp0 (by omega) M8 ?_
  · intro x hx
    rw [List.eq_of_mem_replicate hx]
    omega
  · rw [hks]
    refine L8.cast ?_ ?_
    · rw [Int.toNat_natCast, sum_replicate]
    · have h1 := wsum_replicate f n
      rw [Int.toNat_natCast]
      have h2 : f * (n : Int) * ((n : Int) + (1 : Int)) = 2 * wsum (List.replicate n f) := h1.symm
      rw [h2, Int.fdiv_eq_ediv_of_nonneg _ (by decide)]
      omega
end
end Mine

namespace Mine
open Builtin
set_option maxRecDepth 100000

section
variable {prog : Program} {w : World} {A : Around} {E : Value → Shared → Prop} {env : Env} {s : Shared} {h₀ : Heap} {m : PySem.Str → Option Value} {news : List (Addr × Obj)} {a b : Int} {e1 e2 : Expr} {p1 p2 p3 p4 pos : Pos} {k1 k2 : Nat} {x y : PySem.Str} {Q : Flow → Shared → Prop}
/-- `x, y = e1, e2` of two locals -/
theorem do_pair (hh : A.handled = none) (F : Fr h₀ env.locals s.heap m) (N : News h₀ env.locals s.heap news) (h1 : Ev prog w A env s.heap e1 (IsI a)) (h2 : Ev prog w A env s.heap e2 (IsI b))
    (hq : ∀ t u h' k, Fr h₀ env.locals h' (set1 (set1 m y (.int b u)) x (.int a t)) → News h₀ env.locals h' news → Q .next { s with heap := h', toks := k })
    (hs : swapsWithSole [.Tuple [.Name x p1, .Name y p2] k1 p3] (.Tuple [e1, e2] k2 p4) pos.line env = pure false := by rfl)
    (hw : swappedStores [.Tuple [.Name x p1, .Name y p2] k1 p3] (.Tuple [e1, e2] k2 p4) env = pure (some [x, y]) := by rfl)
    (he : starEach [e1, e2] env = [(false, eval e1 env), (false, eval e2 env)] := by rfl)
    (hk : env.scope.kind = .function := by rfl) (hlx : env.kindOf x = some .local := by rfl) (hly : env.kindOf y = some .local := by rfl) :
    wpAny (model prog w) A (exec (.Assign [.Tuple [.Name x p1, .Name y p2] k1 p3] (.Tuple [e1, e2] k2 p4) pos) env) Q E s := by
  refine Assign_Tuple_swapped (names := [x, y]) (Tuple_ ?_) hs hw
  rw [he]
  refine spliced_cons (h1 _ _ s rfl fun v k hv => spliced_cons (h2 _ _ { s with toks := k } rfl fun v2 k2 hv2 => wpAny_pure ?_))
  obtain ⟨t, rfl⟩ := hv
  obtain ⟨u, rfl⟩ := hv2
  refine wpAny_newObj_type ?_ (by show (2 : Nat) ≤ sizeLine; rw [sizeLine_eq]; decide)
  have ht : IsTup (s.heap.push { cls := .type "tuple", data := .seq [Value.int a t, Value.int b u].toArray }) s.heap.objs.size [Value.int a t, Value.int b u].toArray := (News.push F N { cls := .type "tuple", data := .seq [Value.int a t, Value.int b u].toArray }).isTup (.head _)
  refine unpackItems_tuple (items := [Value.int a t, Value.int b u].toArray) (s := { s with heap := s.heap.push { cls := .type "tuple", data := .seq [Value.int a t, Value.int b u].toArray }, toks := k2 }) hh ht fun h' he' => ?_
  have F1 := (F.push { cls := .type "tuple", data := .seq [Value.int a t, Value.int b u].toArray }).extBut he' (Nat.le_refl _)
  have N1 := (News.pushKeep N { cls := .type "tuple", data := .seq [Value.int a t, Value.int b u].toArray }).extBut he' (Nat.le_refl _)
  refine assignInOrder_cons (bindName_ (store1 (s := { s with heap := h', toks := k2 }) F1 N1 (fun h2 F2 N2 _ => ?_) hk hly))
  exact assignInOrder_cons (bindName_ (store1 (s := { s with heap := h2, toks := k2 + 1 }) F2 N2 (fun h3 F3 N3 _ => assignInOrder_nil (hq t u h3 _ F3 N3)) hk hlx))
end

section
variable {prog : Program} {w : World} {A : Around} {s : Shared} {h₀ : Heap} {mg mb : PySem.Str → Option Value} {L a sc R : Addr} {cd : Value} {vs rs : List Value} {ns ks : List Int} {p : Int} {Q : Flow → Shared → Prop}

theorem law_B {m : PySem.Str → Option Value} (hh : A.handled = none) (F : Fr h₀ L s.heap m) (N : News h₀ L s.heap [(R, listOf rs.toArray 0)]) (hsc : h₀.IsList sc vs.toArray) (his : IntsAre vs ns) (hlen : ns.length ≤ 63) (hm : m "script" = some (.ref sc))
    (hi : IntsAre rs ks) (hb : In256 ks) (hn2 : 2 ≤ ks.length) (hn1 : ks.length ≤ 4114) (S : LawS m R ks.length p ks.sum (wsum ks))
    (hq : ∀ h k m' rs' ks', ks'.length = ks.length → IntsAre rs' ks' → In256 ks' → Fr h₀ L h m' → News h₀ L h [(R, listOf (List.toArray rs') 0)] → LawS m' R ks'.length p ks'.sum (wsum ks') → Q .next { s with heap := h, toks := k }) :
    wpAny (model prog w) A (exec (lawBody.getD 7 default) (envL L a cd)) Q (fun _ _ => False) s := by
  have hsc0 : s.heap.IsList sc vs.toArray := hsc.at fun o e => F.keep _ _ e
  have hvl : vs.length = ns.length := his.length
  refine For_invV h₀ (env := envL L a cd) rfl rfl ?_
  refine wpAny_Subscript_list_slice ?_
  refine (ev_local F.ns hm : Ev prog w A (envL L a cd) s.heap _ _) _ _ s rfl fun v k hv => ?_
  rw [evalPart_some]
  refine (ev_const : Ev prog w A (envL L a cd) s.heap _ _) _ _ { s with toks := k } rfl fun v1 k1 hv1 => ?_
  rw [evalPart_some]
  refine (ev_const : Ev prog w A (envL L a cd) s.heap _ _) _ _ { s with toks := k1 } rfl fun v2 k2 hv2 => ?_
  subst hv
  obtain ⟨u1, rfl⟩ := hv1
  obtain ⟨u2, rfl⟩ := hv2
  refine ⟨sc, vs.toArray, _, _, rfl, hsc0, by rw [List.size_toArray, sizeLine_eq]; omega, .int _ _, .int _ _, ?_⟩
  rw [slicePick_plain]
  generalize hsl : s.heap.push { cls := .type "slice", data := .fields #[.int 2 u1, .int 63 u2, .none] } = hsp
  have F2 : Fr h₀ L hsp m := by rw [← hsl]; exact F.push _
  have N2 : News h₀ L hsp [(R, listOf rs.toArray 0)] := by rw [← hsl]; exact News.pushKeep N _
  have hsz : s.heap.objs.size + 1 = hsp.objs.size := by rw [← hsl, Heap.size_push]
  rw [hsz]
  generalize hax : (Option.some (2 : Int)).elim 0 (clipAt vs.toArray.size) = ax
  generalize hbx : (Option.some (63 : Int)).elim vs.toArray.size (clipAt vs.toArray.size) - ax = bx
  have hiv : IntsAre ((vs.toArray.toList.drop ax).take bx) ((ns.drop ax).take bx) := (his.drop ax).take bx
  generalize (vs.toArray.toList.drop ax).take bx = ws at hiv ⊢
  generalize (ns.drop ax).take bx = ms at hiv
  have F3 := F2.push { cls := .type "list", data := .seq ws.toArray }
  have N3 := News.pushKeep N2 { cls := .type "list", data := .seq ws.toArray }
  refine iter_list (fun i m' news' => ∃ rs' ks', news' = [(R, listOf (List.toArray rs') 0)] ∧ IntsAre rs' ks' ∧ In256 ks' ∧ ks'.length = ks.length ∧ LawS m' R ks'.length p ks'.sum (wsum ks'))
    (env := envL L a cd) hh F3 N3 (l := hsp.objs.size) (vs := ws) (ns := ms) ⟨_, Heap.get?_push_size _ rfl, rfl, 0, rfl⟩ hiv (Nat.ne_of_gt F2.ns.lt) (fun q hq e => absurd (Heap.lt_size (N2 q hq).1) (e ▸ Nat.lt_irrefl _)) ⟨rs, ks, rfl, hi, hb, rfl, S⟩ ?_ ?_
  · rintro i k t m₁ news₁ h tk own hk ⟨rs', ks', rfl, hi', hb', hl', S'⟩ hoff hadr Fb Nb
    have Fb' : Fr h₀ L h (set1 m₁ "number" (.int k t)) := Fb
    have Sb := S'.other (x := "number") (v := .int k t) (by decide)
    have Kb : HasI (set1 m₁ "number" (.int k t)) "number" k := .eq
    generalize set1 m₁ "number" (.int k t) = m2 at Fb' Sb Kb
    refine do_next (do_pair (env := envL L a cd) (s := { s with heap := h, toks := tk }) hh Fb' Nb (ev_mod (ev_div (ev_has Kb Fb'.ns) ev_const (by decide) (by decide)) (ev_has Sb.size Fb'.ns) (by omega)) (ev_mod (ev_has Kb Fb'.ns) ev_const (by decide)) fun t3 u3 h3 k3 F3 N3 => ⟨rfl, ?_⟩)
    have ho0 := fmod_lo k (n := (256 : Int)) (by decide)
    have ho1 := fmod_hi k (n := (256 : Int)) (by decide)
    have hs0 := fmod_lo (k.fdiv 256) (n := (ks'.length : Int)) (by omega)
    have hs1 := fmod_hi (k.fdiv 256) (n := (ks'.length : Int)) (by omega)
    generalize Int.fmod k 256 = oc at F3 ho0 ho1
    generalize Int.fmod (Int.fdiv k 256) (ks'.length : Int) = sp at F3 hs0 hs1
    have S3 := (Sb.other (x := "octet") (v := .int oc u3) (by decide)).other (x := "spot") (v := .int sp t3) (by decide)
    have O3 : HasI (set1 (set1 m2 "octet" (.int oc u3)) "spot" (.int sp t3)) "octet" oc := HasI.eq.ne (by decide)
    have P3 : HasI (set1 (set1 m2 "octet" (.int oc u3)) "spot" (.int sp t3)) "spot" sp := .eq
    generalize set1 (set1 m2 "octet" (.int oc u3)) "spot" (.int sp t3) = m3 at F3 S3 O3 P3
    clear Fb Fb' Nb Sb Kb S'
    -- whole += octet - row[spot]
    obtain ⟨tw, hW⟩ := S3.whole
    refine do_next (do_add (env := envL L a cd) (s := { s with heap := h3, toks := k3 }) hW (ev_sub (ev_has O3 F3.ns) (ev_item (News.isList N3 (.head _)) hi' (ev_local F3.ns S3.row) (ev_has P3 F3.ns) hs0 hs1 (by omega))) F3 N3 fun t4 h4 k4 F4 N4 => ⟨rfl, ?_⟩)
    have S4 := S3.setW (i := ks'.sum + (oc - ks'.getD sp.toNat 0)) (t := t4)
    have O4 := O3.ne (x := "whole") (v := .int (ks'.sum + (oc - ks'.getD sp.toNat 0)) t4) (by decide)
    have P4 := P3.ne (x := "whole") (v := .int (ks'.sum + (oc - ks'.getD sp.toNat 0)) t4) (by decide)
    generalize set1 m3 "whole" (.int (ks'.sum + (oc - ks'.getD sp.toNat 0)) t4) = m4 at F4 S4 O4 P4
    -- weighed += (size - spot) * (octet - row[spot])
    obtain ⟨tv, hV⟩ := S4.weighed
    refine do_next (do_add (env := envL L a cd) (s := { s with heap := h4, toks := k4 }) hV (ev_mul (ev_sub (ev_has S4.size F4.ns) (ev_has P4 F4.ns)) (ev_sub (ev_has O4 F4.ns) (ev_item (News.isList N4 (.head _)) hi' (ev_local F4.ns S4.row) (ev_has P4 F4.ns) hs0 hs1 (by omega))) (by omega)) F4 N4 fun t5 h5 k5 F5 N5 => ⟨rfl, ?_⟩)
    have S5 := S4.setV (i := wsum ks' + ((ks'.length : Int) - sp) * (oc - ks'.getD sp.toNat 0)) (t := t5)
    have O5 := O4.ne (x := "weighed") (v := .int (wsum ks' + ((ks'.length : Int) - sp) * (oc - ks'.getD sp.toNat 0)) t5) (by decide)
    have P5 := P4.ne (x := "weighed") (v := .int (wsum ks' + ((ks'.length : Int) - sp) * (oc - ks'.getD sp.toNat 0)) t5) (by decide)
    generalize set1 m4 "weighed" (.int (wsum ks' + ((ks'.length : Int) - sp) * (oc - ks'.getD sp.toNat 0)) t5) = m5 at F5 S5 O5 P5
    -- row[spot] = octet
    obtain ⟨to, hO⟩ := O5
    obtain ⟨tp, hP⟩ := P5
    refine do_next (wpAny_Assign_Subscript ((ev_local F5.ns hO : Ev prog w A (envL L a cd) h5 _ _) _ _ { s with heap := h5, toks := k5 } rfl fun v1 k1 hv1 => (ev_local F5.ns S5.row : Ev prog w A (envL L a cd) h5 _ _) _ _ { s with heap := h5, toks := k1 } rfl fun v2 k2 hv2 => (ev_local F5.ns hP : Ev prog w A (envL L a cd) h5 _ _) _ _ { s with heap := h5, toks := k2 } rfl fun v3 k3 hv3 => ?_))
    subst hv1 hv2 hv3
    refine ksa_set (s := { s with heap := h5, toks := k3 }) F5 N5 (.head ?_) hi' hs0 hs1 (by omega) fun h6 F6 N6 hi6 hl6 hsum6 => ⟨rfl, wpAny_execs_nil ?_⟩
    · exact hoff.ne (.head _)
    · have hb6 : In256 (ks'.set sp.toNat oc) := fun x hx => by
        rcases List.mem_or_eq_of_mem_set hx with hx | rfl
        · exact hb' x hx
        · exact ⟨ho0, ho1⟩
      refine InvEndN.intro F6 N6 ⟨_, _, rfl, hi6, hb6, hl6.trans hl', ?_⟩ rfl (fun q hq => List.mem_append_left own hq) (fun q hq => List.mem_cons_of_mem _ hq)
      rw [hl6]
      refine S5.cast ?_ ?_
      · rw [sum_turn _ _ _ (by omega)]
      · rw [wsum_turn _ _ _ (by omega), Int.toNat_of_nonneg hs0]
  · rintro m₁ news₁ h tk ⟨rs', ks', rfl, hi', hb', hl', S'⟩ F' N'
    exact hq h tk m₁ rs' ks' hl' hi' hb' F' N' S'
end
end Mine

namespace Mine
open Builtin
set_option maxRecDepth 100000

theorem struck_sum (ks : List Int) (p : Nat) (h : p + 2 ≤ ks.length) : (struck ks p).sum = ks.sum - (ks.getD p 0 + ks.getD (p + 1) 0) := by
  unfold struck
  rw [sum_turn _ _ _ (by rw [List.length_set]; omega), sum_turn _ _ _ (by omega)]
  have e : (ks.set p 0).getD (p + 1) 0 = ks.getD (p + 1) 0 := by simp [List.getD]
  rw [e]
  omega
theorem struck_wsum (ks : List Int) (p : Nat) (h : p + 2 ≤ ks.length) :
    wsum (struck ks p) = wsum ks - (((ks.length : Int) - (p : Int)) * ks.getD p 0 + ((ks.length : Int) - (p : Int) - 1) * ks.getD (p + 1) 0) := by
  unfold struck
  rw [wsum_turn _ _ _ (by rw [List.length_set]; omega), wsum_turn _ _ _ (by omega)]
  have e : (ks.set p 0).getD (p + 1) 0 = ks.getD (p + 1) 0 := by simp [List.getD]
  rw [e, List.length_set]
  push_cast
  grind

section
variable {prog : Program} {w : World} {A : Around} {E : Value → Shared → Prop} {s : Shared} {env : Env} {h₀ : Heap} {x : PySem.Str} {body : List Stmt} {Q : Flow → Shared → Prop} {m₀ : PySem.Str → Option Value}
/-- the loop over a range -/
theorem iter_range {r : Addr} {a b : Int} {t u v : Tok} {n : Nat} {news : List (Addr × Obj)} (J : Nat → (PySem.Str → Option Value) → List (Addr × Obj) → Prop)
    (hh : A.handled = none) (F : Fr h₀ env.locals s.heap m₀) (N : News h₀ env.locals s.heap news) (hr : IsRange s.heap r a b 1 t u v) (hsmall : Builtin.Range.small a b 1 = true) (hn : Builtin.Range.rangeSize a b 1 = (n : Int)) (hj : J 0 m₀ news)
    (turn : ∀ i t m₁ news₁ h tk own, i < n → J i m₁ news₁ → OwnOff own (news.map (·.1)) → news₁.map (·.1) = news.map (·.1) → Fr h₀ env.locals h (fun y => if y = x then some (.int (a + (i : Int)) t) else m₁ y) → News h₀ env.locals h (news₁ ++ own) →
      wpAny (model prog w) A (execs body env) (InvPostN h₀ env.locals (J (i + 1)) own (news.map (·.1)) { s with heap := h, toks := tk } Q) E { s with heap := h, toks := tk })
    (done : ∀ m₁ news₁ h tk, J n m₁ news₁ → Fr h₀ env.locals h m₁ → News h₀ env.locals h news₁ → Q .next { s with heap := h, toks := tk }) :
    wpAny (model prog w) A (pyIter (.ref r)) (fun it s₂ => LoopAtV prog w A h₀ env x body Q E it s₂) E s := by
  refine wpAny_pyIter_range hr hsmall ?_
  rw [hn]
  have W := Walks.range (prog := prog) (w := w) hh s.heap.objs.size a 1 n
  have st0 : IsRangeIter (s.heap.push { cls := .type "range_iterator", data := .fields #[rawInt a, rawInt n, rawInt 1] }) s.heap.objs.size (a + ((0 : Nat) : Int) * 1) ((n : Int) - ((0 : Nat) : Int)) 1 := by
    have e1 : a + ((0 : Nat) : Int) * 1 = a := by simp
    have e2 : (n : Int) - ((0 : Nat) : Int) = n := by simp
    rw [e1, e2]
    exact Heap.get?_push_size _ rfl
  refine loop_invN J W ?_ ?_ ?_ ?_ st0 (F.push _) (News.pushKeep N _) hj ?_ done
  · intro hm
    exact absurd F.ns.lt (List.mem_singleton.mp hm ▸ Nat.lt_irrefl _)
  · intro c hc
    rw [List.mem_singleton.mp hc]
    exact next_is_new F
  · intro p hp hI
    exact absurd (Heap.lt_size (N p hp).1) ((List.mem_singleton.mp hI) ▸ Nat.lt_irrefl _)
  · intro p hp hI
    exact absurd (Heap.lt_size (N p hp).1) ((List.mem_singleton.mp hI) ▸ Nat.lt_irrefl _)
  · rintro i v m₁ news₁ h tk own hlt ⟨t', rfl⟩ hadr hoff hJ F₁ N₁
    rw [Int.mul_one] at F₁
    exact turn i t' m₁ news₁ h tk own hlt hJ hoff hadr F₁ N₁
end

section
variable {prog : Program} {w : World} {A : Around} {s : Shared} {h₀ : Heap} {mg mb : PySem.Str → Option Value} {L a R Fd : Addr} {cd : Value} {rs : List Value} {ks zs : List Int} {n p W V : Int} {Q : Flow → Shared → Prop}

/-- stmts 8, 9, 10: the two octets taken off, the list of the found -/
theorem law_C {m : PySem.Str → Option Value} (F : Fr h₀ L s.heap m) (N : News h₀ L s.heap [(R, listOf rs.toArray 0)])
    (hi : IntsAre rs ks) (hn1 : ks.length ≤ 4114) (h0 : 0 ≤ p) (h1 : p + 2 ≤ ks.length) (S : LawS m R ks.length p ks.sum (wsum ks))
    (hq : ∀ h k m' Fd, R ≠ Fd → Fr h₀ L h m' → News h₀ L h [(Fd, listOf #[] 0), (R, listOf rs.toArray 0)] → m' "found" = some (.ref Fd) → LawS m' R ks.length p (struck ks p.toNat).sum (wsum (struck ks p.toNat)) →
      wpC (model prog w) A (execs (lawBody.drop 11) (envL L a cd)) Q (fun _ _ => False) { s with heap := h, toks := k }) :
    wpC (model prog w) A (execs (lawBody.drop 8) (envL L a cd)) Q (fun _ _ => False) s := by
  have e1 : (p + 1).toNat = p.toNat + 1 := by omega
  have e2 : ((p.toNat : Nat) : Int) = p := by omega
  obtain ⟨tw, hW⟩ := S.whole
  refine doC_any (do_sub (env := envL L a cd) hW (ev_add (ev_item (News.isList N (.head _)) hi (ev_local F.ns S.row) (ev_has S.place F.ns) h0 (by omega) (by omega)) (ev_item (News.isList N (.head _)) hi (ev_local F.ns S.row) (ev_add (ev_has S.place F.ns) ev_const) (by omega) (by omega) (by omega))) F N fun t2 h2 k2 F2 N2 => ⟨rfl, ?_⟩)
  have S2 := S.setW (i := ks.sum - (ks.getD p.toNat 0 + ks.getD (p + 1).toNat 0)) (t := t2)
  generalize set1 m "whole" (.int (ks.sum - (ks.getD p.toNat 0 + ks.getD (p + 1).toNat 0)) t2) = m2 at F2 S2
  obtain ⟨tv, hV⟩ := S2.weighed
  refine doC_any (do_sub (env := envL L a cd) (s := { s with heap := h2, toks := k2 }) hV (ev_add (ev_mul (ev_sub (ev_has S2.size F2.ns) (ev_has S2.place F2.ns)) (ev_item (News.isList N2 (.head _)) hi (ev_local F2.ns S2.row) (ev_has S2.place F2.ns) h0 (by omega) (by omega)) (by omega))
    (ev_mul (ev_sub (ev_sub (ev_has S2.size F2.ns) (ev_has S2.place F2.ns)) ev_const) (ev_item (News.isList N2 (.head _)) hi (ev_local F2.ns S2.row) (ev_add (ev_has S2.place F2.ns) ev_const) (by omega) (by omega) (by omega)) (by omega))) F2 N2 fun t3 h3 k3 F3 N3 => ⟨rfl, ?_⟩)
  have S3 := S2.setV (i := wsum ks - (((ks.length : Int) - p) * ks.getD p.toNat 0 + ((ks.length : Int) - p - 1) * ks.getD (p + 1).toNat 0)) (t := t3)
  generalize set1 m2 "weighed" (.int (wsum ks - (((ks.length : Int) - p) * ks.getD p.toNat 0 + ((ks.length : Int) - p - 1) * ks.getD (p + 1).toNat 0)) t3) = m3 at F3 S3
  refine doC_any (wpAny_Assign_Name (List_ ?_))
  show wpAny _ _ (spliced []) _ _ _
  refine spliced_nil (newList_N (s := { s with heap := h3, toks := k3 }) F3 N3 fun h4 F4 N4 => ?_)
  have hne : R ≠ ({ s with heap := h3, toks := k3 } : Shared).heap.objs.size := Nat.ne_of_lt (Heap.lt_size (N3 _ (.head _)).1)
  generalize ({ s with heap := h3, toks := k3 } : Shared).heap.objs.size = Fd at N4 hne ⊢
  refine store1 (env := envL L a cd) (s := { s with heap := h4, toks := k3 }) F4 N4 fun h5 F5 N5 _ => ⟨rfl, ?_⟩
  refine hq h5 _ _ Fd hne F5 N5 set1_eq ((S3.other (by decide)).cast ?_ ?_)
  · rw [struck_sum _ _ (by omega), e1]
  · rw [struck_wsum _ _ (by omega), e1, e2]

/-- stmt 11: the search -/
theorem law_D {m : PySem.Str → Option Value} (hh : A.handled = none) (G : Glb mg mb h₀) (F : Fr h₀ L s.heap m) (N : News h₀ L s.heap [(Fd, listOf #[] 0), (R, listOf rs.toArray 0)])
    (hne : R ≠ Fd) (hn1 : zs.length ≤ 4114) (h0 : 0 ≤ p) (h1 : p + 2 ≤ zs.length) (hf : m "found" = some (.ref Fd)) (S : LawS m R zs.length p zs.sum (wsum zs))
    (hq : ∀ h k m' fs c, Fr h₀ L h m' → News h₀ L h [(Fd, listOf (List.toArray fs) c), (R, listOf rs.toArray 0)] → IntsAre fs [toldOf zs p] → m' "found" = some (.ref Fd) → LawS m' R zs.length p zs.sum (wsum zs) →
      Q .next { s with heap := h, toks := k }) :
    wpAny (model prog w) A (exec (lawBody.getD 11 default) (envL L a cd)) Q (fun _ _ => False) s := by
  have hr := hi_range zs p
  refine For_invV h₀ (env := envL L a cd) rfl rfl ?_
  refine eval_callT2 (T := "range") (V1 := IsI 1) (V2 := IsI 256) (ev_builtin (G.g.keeps F.keep) G.gl.2.2.2.2.2 (G.b.keeps F.keep) G.bl.2.2.2.2.2) ev_const ev_const fun v1 v2 k hv1 hv2 => ?_
  obtain ⟨u1, rfl⟩ := hv1
  obtain ⟨u2, rfl⟩ := hv2
  refine call_range_2 (s := { s with toks := k }) ?_
  have F2 := F.push { cls := .type "range", data := .fields #[.int 1 u1, .int 256 u2, .int 1 k] }
  have N2 := News.pushKeep N { cls := .type "range", data := .fields #[.int 1 u1, .int 256 u2, .int 1 k] }
  refine iter_range (s := { s with heap := s.heap.push { cls := .type "range", data := .fields #[.int 1 u1, .int 256 u2, .int 1 k] }, toks := k + 1 }) (n := 255)
    (fun i m' news' => ∃ fs c, news' = [(Fd, listOf (List.toArray fs) c), (R, listOf rs.toArray 0)] ∧ IntsAre fs (if hiOf zs p ≤ (i : Int) then [toldOf zs p] else []) ∧ m' "found" = some (.ref Fd) ∧ LawS m' R zs.length p zs.sum (wsum zs))
    (env := envL L a cd) hh F2 N2 (t := u1) (u := u2) (v := k) (Heap.get?_push_size _ rfl) (small_one (by decide) (by decide) (by decide) (by decide)) (rangeSize_nat _ _) ⟨[], 0, rfl, ?_, hf, S⟩ ?_ ?_
  · rw [if_neg (by omega)]
    exact .nil
  · rintro i t m₁ news₁ h tk own hlt ⟨fs, c, rfl, hfs, hf', S'⟩ hoff hadr Fb Nb
    have Fb' : Fr h₀ L h (set1 m₁ "high" (.int (1 + (i : Int)) t)) := Fb
    have Sb := S'.other (x := "high") (v := .int (1 + (i : Int)) t) (by decide)
    have Kb : HasI (set1 m₁ "high" (.int (1 + (i : Int)) t)) "high" (1 + (i : Int)) := .eq
    have fb : set1 m₁ "high" (.int (1 + (i : Int)) t) "found" = some (.ref Fd) := set1_ne (by decide) hf'
    generalize set1 m₁ "high" (.int (1 + (i : Int)) t) = m2 at Fb' Sb Kb fb
    clear Fb S'
    refine do_next (do_int (env := envL L a cd) (s := { s with heap := h, toks := tk }) (ev_sub ev_const (ev_mod (ev_add (ev_has Sb.whole Fb'.ns) (ev_has Kb Fb'.ns)) ev_const (by decide))) Fb' Nb fun t3 h3 k3 F3 N3 => ⟨rfl, ?_⟩)
    rw [Int.fmod_eq_emod_of_nonneg _ (by decide)] at F3
    have S3 := Sb.other (x := "low") (v := .int (255 - (zs.sum + (1 + (i : Int))) % 255) t3) (by decide)
    have K3 := Kb.ne (x := "low") (v := .int (255 - (zs.sum + (1 + (i : Int))) % 255) t3) (by decide)
    have f3 := set1_ne (v := .int (255 - (zs.sum + (1 + (i : Int))) % 255) t3) (show ("found" : PySem.Str) ≠ "low" by decide) fb
    have L3 : HasI (set1 m2 "low" (.int (255 - (zs.sum + (1 + (i : Int))) % 255) t3)) "low" (255 - (zs.sum + (1 + (i : Int))) % 255) := .eq
    generalize set1 m2 "low" (.int (255 - (zs.sum + (1 + (i : Int))) % 255) t3) = m3 at F3 S3 K3 f3 L3
    clear Fb' Nb Sb Kb fb
    have hiff := high_iff zs p (1 + (i : Int)) (by omega) (by omega)
    refine do_next (do_if (env := envL L a cd) (s := { s with heap := h3, toks := k3 }) (tst_eq (ev_mod (ev_add (ev_add (ev_has S3.weighed F3.ns) (ev_mul (ev_sub (ev_has S3.size F3.ns) (ev_has S3.place F3.ns)) (ev_has K3 F3.ns) (by omega)))
      (ev_mul (ev_sub (ev_sub (ev_has S3.size F3.ns) (ev_has S3.place F3.ns)) ev_const) (ev_has L3 F3.ns) (by omega))) ev_const (by decide)) ev_const) (fun hc k => ?_) (fun hc k => ?_))
    · have hc' := eq_of_beq hc
      rw [Int.fmod_eq_emod_of_nonneg _ (by decide)] at hc'
      have hhi := hiff.mp hc'
      rw [if_neg (by omega)] at hfs
      cases hfs
      have hlow := low_at zs p
      rw [← hhi] at hlow
      rw [hlow] at L3
      have D3 := (N3 _ (.head _)).1
      refine do_next (wpAny_Expr (MethodCall_ ((ev_local F3.ns f3 : Ev prog w A (envL L a cd) h3 _ _) _ _ { s with heap := h3, toks := k } rfl fun v k1 hv => ?_)))
      subst hv
      refine getMethod_list_append (s := { s with heap := h3, toks := k1 }) D3 rfl rfl (Calls.callWith_builtin (by rfl) (args1 (s := { s with heap := h3, toks := k1 }) (ev_add (ev_mul ev_const (ev_has K3 F3.ns) (by decide)) (ev_has L3 F3.ns)) fun v1 k2 hv1 => ?_))
      obtain ⟨u3, rfl⟩ := hv1
      refine append_in (s := { s with heap := h3, toks := k2 }) (own := []) (ys := []) F3 N3 (fun q hq => nomatch hq) ?_ (fun h4 F4 N4 => ?_) (Nat.zero_le _)
      · intro q hq
        rcases List.mem_cons.mp hq with rfl | hq
        · exact hne
        · exact hoff.ne (.head _) q hq
      · refine ⟨rfl, wpAny_execs_nil ⟨rfl, wpAny_execs_nil ?_⟩⟩
        refine InvEndN.intro F4 N4 ⟨[.int (256 * (1 + (i : Int)) + loOf zs p) u3], c + 1, rfl, ?_, f3, S3⟩ rfl (fun q hq => List.mem_append_left own hq) (fun q hq => List.mem_cons_of_mem _ (List.mem_cons_of_mem _ hq))
        rw [if_pos (by push_cast; omega)]
        have e : toldOf zs p = 256 * (1 + (i : Int)) + loOf zs p := by rw [toldOf, ← hhi]
        rw [e]
        exact .cons _ u3 .nil
    · have hc' : ¬ (1 + (i : Int)) = hiOf zs p := fun e => by
        have := hiff.mpr e
        rw [← Int.fmod_eq_emod_of_nonneg _ (by decide)] at this
        have hcf := beq_eq_false_iff_ne.mp hc
        exact hcf this
      refine wpAny_execs_nil ⟨rfl, wpAny_execs_nil ?_⟩
      refine InvEndN.intro F3 N3 ⟨fs, c, rfl, ?_, f3, S3⟩ rfl (fun q hq => List.mem_append_left own hq) (fun q hq => List.mem_cons_of_mem _ (List.mem_cons_of_mem _ hq))
      by_cases hle : hiOf zs p ≤ (i : Int)
      · rw [if_pos hle] at hfs
        rw [if_pos (by push_cast; omega)]
        exact hfs
      · rw [if_neg hle] at hfs
        rw [if_neg (by push_cast; omega)]
        exact hfs
  · rintro m₁ news₁ h tk ⟨fs, c, rfl, hfs, hf', S'⟩ F' N'
    rw [if_pos (by push_cast; omega)] at hfs
    exact hq h tk m₁ fs c F' N' hfs hf' S'
end
end Mine

namespace Mine
open Builtin
set_option maxRecDepth 100000

section
variable {prog : Program} {w : World} {A : Around} {E : Value → Shared → Prop} {env : Env} {s : Shared}
theorem wpC_And2 {x y : Expr} {pos : Pos} {Q : Value → Shared → Prop}
    (h : wpAny (model prog w) A (eval x env) (fun v s₁ => wpAny (model prog w) A (truthy v) (fun t s₂ => t = true ∧ wpC (model prog w) A (eval y env) Q E s₂) E s₁) E s) :
    wpC (model prog w) A (eval (.BoolOp .And [x, y] pos) env) Q E s := by
  show wpC (model prog w) A (do
    let v ← eval x env
    standAt pos
    let t ← holding [v] (truthy v)
    match BoolOp.And, t with
    | .And, false | .Or, true => pure v
    | _, _ => boolOp pos .And [eval y env]) Q E s
  refine wpC_bindA (wpAny_mono h (fun v s₁ h₁ => ?_) fun _ _ x => x)
  refine wpC_bindA (wpAny_standAt (wpC_bindA (wpAny_holding (wpAny_mono h₁ (fun t s₂ h₂ => ?_) fun _ _ x => x))))
  obtain ⟨rfl, h₂⟩ := h₂
  exact h₂
theorem wpC_Compare1 {l op r pos} {Q : Value → Shared → Prop}
    (h : wpC (model prog w) A (eval l env) (fun a s₁ => wpAny (model prog w) A (eval r env) (fun b s₂ => wpAny (model prog w) A (compareOp op a b) Q E s₂) E s₁) E s)
    (hm : behindInMarks op r = false := by with_unfolding_all rfl) :
    wpC (model prog w) A (eval (.Compare l [op] [r] pos) env) Q E s := by
  rw [eval_Compare1, markedBehindIn_of_false hm]
  refine wpC_bind (wpC_mono h (fun a s₁ h₁ => wpC_any ?_) fun _ _ x => x)
  exact wpAny_bind (wpAny_holding (wpAny_mono h₁ (fun b s₂ h₂ => wpAny_bind (wpAny_standAt (wpAny_operating h₂))) fun _ _ x => x))
theorem wpAny_assign_Subscript {o i : Expr} {pos : Pos} {v : Value} {Q : Unit → Shared → Prop}
    (h : wpAny (model prog w) A (eval o env) (fun ov s₂ => wpAny (model prog w) A (eval i env) (fun iv s₃ => wpAny (model prog w) A (setItem ov iv v) (fun _ => Q ()) E s₃) E s₂) E s) :
    wpAny (model prog w) A (assign (.Subscript o i pos) env v) Q E s := fun Γ p hΓ => by
  simp only [assign_Subscript, Sem.wp_bind', Sem.wp_holding, Sem.wp_cmd_standAt, Sem.wp_release, Sem.wp_pure']
  exact Sem.wp_mono _ Γ _ (fun ov p₂ s₂ h₂ => Sem.wp_mono _ Γ _ (fun iv _ s₃ h₃ => h₃ Γ _ hΓ) (fun _ _ _ h' => h') _ _ (h₂ Γ p₂ hΓ)) (fun _ _ _ h' => h') _ _ (h Γ p hΓ)
end

section
variable {prog : Program} {w : World} {A : Around} {s : Shared} {h₀ : Heap} {mg mb : PySem.Str → Option Value} {L a R Fd af : Addr} {fo : Obj} {pm cdf doc cd : Value} {rs fs : List Value} {ks : List Int} {p : Int} {c : Nat} {Q : Flow → Shared → Prop}

theorem law_E {m : PySem.Str → Option Value} (hroom : A.depth < recursionLimit) (hh : A.handled = none) (hg : A.guards = some []) (hu : A.units + 64 < cLine) (G : Glb mg mb h₀) (X : FnAt h₀ af fo pm cdf doc) (hfn : mg "fletcher_checksum" = some (.ref af))
    (F : Fr h₀ L s.heap m) (N : News h₀ L s.heap [(Fd, listOf fs.toArray c), (R, listOf rs.toArray 0)]) (hfs : IntsAre fs [toldOf (struck ks p.toNat) p]) (hne : R ≠ Fd)
    (hi : IntsAre rs ks) (hb : In256 ks) (hn1 : ks.length ≤ 4114) (h0 : 0 ≤ p) (h1 : p + 2 ≤ ks.length) (hf : m "found" = some (.ref Fd)) {W V : Int} (S : LawS m R ks.length p W V)
    (hq : ∀ h k, (∀ c o, h₀.get? c = some o → h.get? c = some o) → Q (.ret (.bool true)) { s with heap := h, toks := k }) :
    wpC (model prog w) A (execs (lawBody.drop 12) (envL L a cd)) Q (fun _ _ => False) s := by
  have hbs : (byteArr ks).size = ks.length := byteArr_size ks
  -- given = bytearray(row)
  refine doC_next (wpC_Assign_Name (evalC_callT (T := "bytearray") (ev_builtin (G.g.keeps F.keep) G.gl.2.2.1 (G.b.keeps F.keep) G.bl.2.2.1) (ev_local F.ns S.row) fun v k hv => ?_))
  subst hv
  refine ba_make (s := { s with toks := k }) (b := byteArr ks) hg (.list (News.isList N (.tail _ (.head _))) hi hb) (by rw [sizeLine_eq, hbs]; omega) fun h2 hD2 hk2 => ?_
  have F2 := F.keptAll hk2
  have N2 : News h₀ L h2 [(s.heap.objs.size, baObj (byteArr ks)), (Fd, listOf fs.toArray c), (R, listOf rs.toArray 0)] := fun q hq => by
    rcases List.mem_cons.mp hq with rfl | hq
    · exact ⟨hD2, Nat.ne_of_gt F.ns.lt, next_is_new F⟩
    · exact N.keepsAll hk2 q hq
  generalize s.heap.objs.size = B at N2 hD2 ⊢
  refine store1 (env := envL L a cd) (s := { s with heap := h2, toks := k }) F2 N2 fun h3 F3 N3 _ => ⟨rfl, ?_⟩
  have S3 := S.other (x := "given") (v := .ref B) (by decide)
  have f3 := set1_ne (v := .ref B) (show ("found" : PySem.Str) ≠ "given" by decide) hf
  have B3 : set1 m "given" (.ref B) "given" = some (.ref B) := set1_eq
  generalize set1 m "given" (.ref B) = m3 at F3 S3 f3 B3
  -- told = fletcher_checksum(given, place)
  have key : ∀ k', wpAny (model prog w) A (eval (.Name "given" default) (envL L a cd)) (fun v1 s₁ => v1 = .ref B ∧ s₁.heap = h3 ∧ ∃ k, s₁ = { s with heap := h3, toks := k }) (fun _ _ => False) { s with heap := h3, toks := k' } := fun k' =>
    (ev_local F3.ns B3 : Ev prog w A (envL L a cd) h3 _ _) _ _ { s with heap := h3, toks := k' } rfl fun v k hv => ⟨hv, rfl, k, rfl⟩
  have hints : KBw.bInts (byteArr ks) = ks := KBa.ints_make hb
  generalize hT : toldOf (struck ks p.toNat) p = T at hfs
  have kcall : ∀ k', wpAny (model prog w) A (eval (.Name "given" ⟨49, 29, 49, 34⟩) (envL L a cd)) (fun v1 s₁ => s₁.heap.get? af = some fo ∧ Ev prog w A (envL L a cd) s₁.heap (.Name "place" ⟨49, 36, 49, 41⟩) (IsI p) ∧ ∀ v2 k, IsI p v2 →
      codeC (model prog w) A (.call (.ref af) ⟨[v1, v2], []⟩) (wants (fun v s₁ => wpAny (model prog w) A (storeName (envL L a cd) "told" v) (fun _ s' => Flow.next = .next ∧ wpC (model prog w) A (execs (lawBody.drop 14) (envL L a cd)) Q (fun _ _ => False) s') (fun _ _ => False) s₁) (fun _ _ => False)) { s₁ with toks := k }) (fun _ _ => False) { s with heap := h3, toks := k' } := fun k' => by
    refine (ev_local F3.ns B3 : Ev prog w A (envL L a cd) h3 _ _) _ _ { s with heap := h3, toks := k' } rfl fun v k hv => ?_
    subst hv
    refine ⟨(X.keeps F3.keep).get, ev_has S3.place F3.ns, fun v2 k2 hv2 => ?_⟩
    obtain ⟨u2, rfl⟩ := hv2
    refine fl_call (s := { s with heap := h3, toks := k2 }) hroom hh hg (X.keeps F3.keep) (G.keeps F3.keep) (.ba (N3 _ (.head _)).1) (by rw [hbs]; omega) h0 (by rw [hbs]; omega) fun h4 k4 u4 hk4 => ?_
    rw [hints, hT]
    have F4 := F3.keptAll hk4
    have N4 := N3.keepsAll hk4
    refine store1 (env := envL L a cd) (s := { s with heap := h4, toks := k4 }) F4 N4 fun h5 F5 N5 _ => ⟨rfl, ?_⟩
    have S5 := S3.other (x := "told") (v := .int T u4) (by decide)
    have f5 := set1_ne (v := .int T u4) (show ("found" : PySem.Str) ≠ "told" by decide) f3
    have B5 := set1_ne (v := .int T u4) (show ("given" : PySem.Str) ≠ "told" by decide) B3
    have T5 : HasI (set1 m3 "told" (.int T u4)) "told" T := .eq
    generalize set1 m3 "told" (.int T u4) = m5 at F5 S5 f5 B5 T5
    clear F3 N3 F4 N4 S3 f3 B3 F2 N2 hD2
    -- if [told] != found
    refine doC_any (wpAny_If (wpAny_isTrue_Compare1 (wpAny_List ?_)))
    refine spliced_cons ((ev_has T5 F5.ns : Ev prog w A (envL L a cd) h5 _ _) _ _ { s with heap := h5, toks := k4 + 1 } rfl fun v6 k6 hv6 => wpAny_pure ⟨by simp [sizeLine_eq], ?_⟩)
    obtain ⟨u6, rfl⟩ := hv6
    have F6 := F5.push { cls := .type "list", data := .seq [Value.int T u6].toArray }
    have N6 := News.push F5 N5 { cls := .type "list", data := .seq [Value.int T u6].toArray }
    show wpAny _ _ _ _ _ { s with heap := h5.push { cls := .type "list", data := .seq [Value.int T u6].toArray }, toks := k6 }
    have hrl : ({ heap := h5, gens := s.gens, drawn := s.drawn, toks := k6, os := s.os } : Shared).heap.objs.size = h5.objs.size := rfl
    generalize hX : h5.objs.size = xl at N6 ⊢
    generalize h5.push { cls := .type "list", data := .seq [Value.int T u6].toArray } = h6 at F6 N6 ⊢
    refine (ev_local F6.ns f5 : Ev prog w A (envL L a cd) h6 _ _) _ _ { s with heap := h6, toks := k6 } rfl fun v7 k7 hv7 => ?_
    subst hv7
    refine ne_intsK (s := { s with heap := h6, toks := k7 }) (News.isList N6 (.head _)) (.cons T u6 .nil) (News.isList N6 (.tail _ (.tail _ (.head _)))) hfs hu (wpAny_truthy_bool ?_)
    rw [decide_eq_true rfl]
    refine wpAny_execs_nil ⟨rfl, ?_⟩
    have N7 : News h₀ L h6 [(B, baObj (byteArr ks)), (Fd, listOf fs.toArray c), (R, listOf rs.toArray 0)] := fun q hq => N6 q (.tail _ hq)
    clear N6 F5 N5 hk4
    -- if size > 100: return True
    refine wpC_execs_cons (wpC_any (do_if (env := envL L a cd) (s := { s with heap := h6, toks := k7 }) (tst_gt (ev_has S5.size F6.ns) ev_const) (fun hc k8 => ?_) (fun hc k8 => ?_)))
    · refine wpAny_execs_cons (wpAny_Return_some ((ev_bool : Ev prog w A (envL L a cd) h6 _ _) _ _ { s with heap := h6, toks := k8 } rfl fun v9 k9 hv9 => ?_))
      subst hv9
      exact hq h6 k9 F6.keep
    · refine wpAny_execs_nil ?_
      show wpC _ _ (execs (lawBody.drop 16) (envL L a cd)) _ _ _
      -- stands = list(given) == row
      refine doC_any (wpAny_Assign_Name (wpAny_Compare1 (eval_callT (T := "list") (s := { s with heap := h6, toks := k8 }) (ev_builtin (G.g.keeps F6.keep) G.gl.2.2.2.2.1 (G.b.keeps F6.keep) G.bl.2.2.2.2.1) (ev_local F6.ns B5) fun v9 k9 hv9 => ?_)))
      subst hv9
      refine list_of_ba (s := { s with heap := h6, toks := k9 }) hh (N7 _ (.head _)).1 (by rw [sizeLine_eq, hbs]; omega) fun h10 k10 vs10 c10 hk10 hl10 hi10 => ?_
      have F10 := F6.keptAll hk10
      have N10 := N7.keepsAll hk10
      refine (ev_local F10.ns S5.row : Ev prog w A (envL L a cd) h10 _ _) _ _ { s with heap := h10, toks := k10 } rfl fun v11 k11 hv11 => ?_
      subst hv11
      rw [hints] at hi10
      refine eq_intsK (s := { s with heap := h10, toks := k11 }) ⟨_, hl10, rfl, _, rfl⟩ hi10 (News.isList N10 (.tail _ (.tail _ (.head _)))) hi hu ?_
      rw [decide_eq_true rfl]
      refine store1 (env := envL L a cd) (s := { s with heap := h10, toks := k11 }) F10 N10 fun h12 F12 N12 _ => ⟨rfl, ?_⟩
      have S12 := S5.other (x := "stands") (v := .bool true) (by decide)
      have T12 := T5.ne (x := "stands") (v := .bool true) (by decide)
      have St12 : set1 m5 "stands" (.bool true) "stands" = some (.bool true) := set1_eq
      generalize set1 m5 "stands" (.bool true) = m12 at F12 S12 T12 St12
      -- row[place], row[place + 1] = told // 256, told % 256
      have hr := hi_range (struck ks p.toNat) p
      have hl := lo_range (struck ks p.toNat) p
      have ehi := told_hi (struck ks p.toNat) p
      have elo := told_lo (struck ks p.toNat) p
      rw [hT] at ehi elo
      generalize hiOf (struck ks p.toNat) p = x at hr ehi
      generalize loOf (struck ks p.toNat) p = y at hl elo
      refine doC_any (Assign_Tuple (Tuple_ ?_))
      refine spliced_cons ((ev_div (ev_has T12 F12.ns) ev_const (by decide) (by decide) : Ev prog w A (envL L a cd) h12 _ _) _ _ { s with heap := h12, toks := k11 + 1 } rfl fun v13 k13 hv13 => spliced_cons ((ev_mod (ev_has T12 F12.ns) ev_const (by decide) : Ev prog w A (envL L a cd) h12 _ _) _ _ { s with heap := h12, toks := k13 } rfl fun v14 k14 hv14 => wpAny_pure ?_))
      rw [ehi] at hv13
      rw [elo] at hv14
      obtain ⟨u13, rfl⟩ := hv13
      obtain ⟨u14, rfl⟩ := hv14
      refine newTuple_N (s := { s with heap := h12, toks := k14 }) F12 N12 fun h15 F15 N15 => ?_
      generalize ({ s with heap := h12, toks := k14 } : Shared).heap.objs.size = tp at N15 ⊢
      have htp : IsTup h15 tp [Value.int x u13, Value.int y u14].toArray := N15.isTup (.head _)
      refine assign_Tuple_tuple (s := { s with heap := h15, toks := k14 }) hh htp rfl rfl fun h16 he16 => ?_
      have F16 := F15.extBut he16 (Nat.le_refl _)
      have N16' := N15.extBut he16 (Nat.le_refl _)
      have N16 : News h₀ L h16 [(B, baObj (byteArr ks)), (Fd, listOf fs.toArray c), (R, listOf rs.toArray 0)] := fun q hq => N16' q (.tail _ hq)
      have hBR : B ≠ R := News.twoPlaces N16 (.head _) (.tail _ (.tail _ (.head _))) (by intro e; injection e with e1; injection e1 with e2; exact absurd e2 (by decide))
      refine assignInOrder_cons (wpAny_assign_Subscript ((ev_local F16.ns S12.row : Ev prog w A (envL L a cd) h16 _ _) _ _ { s with heap := h16, toks := k14 } rfl fun v17 k17 hv17 => (ev_has S12.place F16.ns : Ev prog w A (envL L a cd) h16 _ _) _ _ { s with heap := h16, toks := k17 } rfl fun v18 k18 hv18 => ?_))
      subst hv17
      obtain ⟨u18, rfl⟩ := hv18
      refine ksa_set (s := { s with heap := h16, toks := k18 }) F16 N16 (.tail hBR (.tail (Ne.symm hne) (.head fun q hq => nomatch hq))) hi h0 (by omega) (by omega) fun h19 F19 N19 hi19 hl19 _ => ?_
      refine assignInOrder_cons (wpAny_assign_Subscript ((ev_local F19.ns S12.row : Ev prog w A (envL L a cd) h19 _ _) _ _ { s with heap := h19, toks := k18 } rfl fun v20 k20 hv20 => (ev_add (ev_has S12.place F19.ns) ev_const : Ev prog w A (envL L a cd) h19 _ _) _ _ { s with heap := h19, toks := k20 } rfl fun v21 k21 hv21 => ?_))
      subst hv20
      obtain ⟨u21, rfl⟩ := hv21
      refine ksa_set (s := { s with heap := h19, toks := k21 }) F19 N19 (.tail hBR (.tail (Ne.symm hne) (.head fun q hq => nomatch hq))) hi19 (by omega) (by rw [hl19]; omega) (by omega) fun h22 F22 N22 hi22 hl22 _ => assignInOrder_nil ⟨rfl, ?_⟩
      have ep : (p + 1).toNat = p.toNat + 1 := by omega
      rw [ep] at hi22 hl22 N22
      have hb22 : In256 ((ks.set p.toNat x).set (p.toNat + 1) y) := fun z hz => by
        rcases List.mem_or_eq_of_mem_set hz with hz | rfl
        · rcases List.mem_or_eq_of_mem_set hz with hz | rfl
          · exact hb z hz
          · omega
        · omega
      have hst22 := struck_set ks p.toNat x y
      have hlen22 : ((ks.set p.toNat x).set (p.toNat + 1) y).length = ks.length := by simp
      generalize (ks.set p.toNat x).set (p.toNat + 1) y = ks2 at hi22 hb22 hst22 hlen22
      generalize (rs.set p.toNat (Value.int x u13)).set (p.toNat + 1) (Value.int y u14) = rs2 at hi22 N22
      -- return stands and fletcher_checksum(bytes(row), place) == told
      refine wpC_execs_cons (wpC_Return (wpC_And2 ((ev_local F22.ns St12 : Ev prog w A (envL L a cd) h22 _ _) _ _ { s with heap := h22, toks := k21 } rfl fun v23 k23 hv23 => ?_)))
      subst hv23
      refine wpAny_truthy_bool ⟨rfl, wpC_Compare1 ?_⟩
      have kc2 : ∀ k', wpAny (model prog w) A (eval (.Call (.Name "bytes" ⟨56, 40, 56, 45⟩) [.Name "row" ⟨56, 46, 56, 49⟩] [] ⟨56, 40, 56, 50⟩) (envL L a cd)) (fun v1 s₁ => s₁.heap.get? af = some fo ∧ Ev prog w A (envL L a cd) s₁.heap (.Name "place" ⟨56, 52, 56, 57⟩) (IsI p) ∧ ∀ v2 k, IsI p v2 →
          codeC (model prog w) A (.call (.ref af) ⟨[v1, v2], []⟩) (wants (fun av s₁ => wpAny (model prog w) A (eval (.Name "told" ⟨56, 62, 56, 66⟩) (envL L a cd)) (fun bv s₂ => wpAny (model prog w) A (compareOp .Eq av bv) (fun v s' => Q (.ret v) s') (fun _ _ => False) s₂) (fun _ _ => False) s₁) (fun _ _ => False)) { s₁ with toks := k }) (fun _ _ => False) { s with heap := h22, toks := k' } := fun k' => by
        refine eval_callT (T := "bytes") (s := { s with heap := h22, toks := k' }) (ev_builtin (G.g.keeps F22.keep) G.gl.2.2.2.1 (G.b.keeps F22.keep) G.bl.2.2.2.1) (ev_local F22.ns S12.row) fun v24 k24 hv24 => ?_
        subst hv24
        refine call_bytes_ints (s := { s with heap := h22, toks := k24 }) (News.isList N22 (.tail _ (.tail _ (.head _)))) hi22 hb22 (by rw [hi22.length, hlen22, sizeLine_eq]; omega) hh fun h25 t25 k25 hk25 => ?_
        have F25 := F22.keptAll hk25
        refine ⟨(X.keeps F25.keep).get, ev_has S12.place F25.ns, fun v2 k2 hv2 => ?_⟩
        obtain ⟨u2, rfl⟩ := hv2
        have hbs2 : (byteArr ks2).size = ks2.length := byteArr_size ks2
        refine fl_call (s := { s with heap := h25, toks := k2 }) hroom hh hg (X.keeps F25.keep) (G.keeps F25.keep) .bytes (by rw [hbs2]; omega) h0 (by rw [hbs2]; omega) fun h26 k26 u26 hk26 => ?_
        rw [KBa.ints_make hb22, hst22, hT]
        have F26 := F25.keptAll hk26
        refine (ev_has T12 F26.ns : Ev prog w A (envL L a cd) h26 _ _) _ _ { s with heap := h26, toks := k26 } rfl fun v27 k27 hv27 => ?_
        obtain ⟨u27, rfl⟩ := hv27
        refine P.eq_int ?_
        rw [beq_self_eq_true]
        exact hq h26 k27 F26.keep
      exact evalC_callF (s := { s with heap := h22, toks := k23 }) (ev_global (G.g.keeps F22.keep) hfn) X.data (kc2 k23) kc2
  exact doC_next (wpC_Assign_Name (evalC_callF (s := { s with heap := h3, toks := k + 1 }) (ev_global (G.g.keeps F3.keep) hfn) X.data (kcall _) kcall))
end
end Mine

namespace Mine
open Builtin
set_option maxRecDepth 100000

section
variable {prog : Program} {w : World} {A : Around} {s : Shared} {h₀ : Heap} {mg mb : PySem.Str → Option Value} {L a sc af fa : Addr} {fo o : Obj} {pm cdf doc cd pm' doc' kV : Value} {vs : List Value} {ns : List Int}

/-- the law's body answers true -/
theorem law_body {m : PySem.Str → Option Value} {Q : Flow → Shared → Prop} (hroom : A.depth < recursionLimit) (hh : A.handled = none) (hg : A.guards = some []) (hu : A.units + 64 < cLine) (G : Glb mg mb h₀) (X : FnAt h₀ af fo pm cdf doc) (hfn : mg "fletcher_checksum" = some (.ref af))
    (F : Fr h₀ L s.heap m) (hsc : h₀.IsList sc vs.toArray) (his : IntsAre vs ns) (hlen : ns.length ≤ 63) (hm : m "script" = some (.ref sc))
    (hq : ∀ h k, (∀ c o, h₀.get? c = some o → h.get? c = some o) → Q (.ret (.bool true)) { s with heap := h, toks := k }) :
    wpC (model prog w) A (execs lawBody (envL L a cd)) Q (fun _ _ => False) s := by
  refine law_A G F hsc his hlen hm fun h1 k1 m1 R rs ks p F1 N1 hi1 hb1 hn2 hn1 h0 hp M1 S1 => ?_
  refine doC_any (law_B (s := { s with heap := h1, toks := k1 }) hh F1 N1 hsc his hlen M1 hi1 hb1 hn2 hn1 S1 fun h2 k2 m2 rs2 ks2 hl2 hi2 hb2 F2 N2 S2 => ⟨rfl, ?_⟩)
  refine law_C (s := { s with heap := h2, toks := k2 }) F2 N2 hi2 (by omega) h0 (by omega) S2 fun h3 k3 m3 Fd hne F3 N3 f3 S3 => ?_
  have hzl := struck_length ks2 p.toNat
  rw [← hzl] at S3
  refine doC_any (law_D (s := { s with heap := h3, toks := k3 }) (zs := struck ks2 p.toNat) hh G F3 N3 hne (by omega) h0 (by omega) f3 S3 fun h4 k4 m4 fs c F4 N4 hfs f4 S4 => ⟨rfl, ?_⟩)
  rw [hzl] at S4
  exact law_E (s := { s with heap := h4, toks := k4 }) hroom hh hg hu G X hfn F4 N4 hfs hne hi2 hb2 (by omega) h0 (by omega) f4 S4 fun h5 k5 hk5 => hq h5 k5 hk5

theorem law_call {Q : Value → Shared → Prop} (G : Glb mg mb s.heap) (X : FnAt s.heap af fo pm cdf doc) (hfn : mg "fletcher_checksum" = some (.ref af))
    (ho : s.heap.get? fa = some o) (hd : o.data = .func { docDef "law" lawParams lawBody lawScope pm' cd doc' with defaults := .none, kwdefaults := kV }) (hcd : s.heap.CodeRec cd "law")
    (hsc : s.heap.IsList sc vs.toArray) (his : IntsAre vs ns) (hlen : ns.length ≤ 63) (hq : ∀ h k, (∀ c o, s.heap.get? c = some o → h.get? c = some o) → Q (.bool true) { s with heap := h, toks := k }) :
    wpC (model prog w) callerA (PySem.call (.ref fa) [.ref sc]) Q (fun _ _ => False) s := by
  refine wpC_call (codeC_def (binds := [("script", .ref sc)]) (by decide) ho hd G.nolimit hcd rfl (BindsTo.of_eq (by rfl)) (show ∀ x ∈ lawScope.names, x.2 ≠ .cell by decide) (by
    intro y hy
    simp only [List.mem_cons, List.not_mem_nil, or_false] at hy
    subst hy
    rfl) fun h₀ F => ?_)
  refine law_body (L := s.heap.objs.size) (a := fa) (cd := cd) (s := { s with heap := h₀, toks := s.toks + 1 }) (m := fun x => ([("script", Value.ref sc)] : List (PySem.Str × Value)).reverse.lookup x) (A := callerA.deeper _) ?_ rfl rfl ?_ G X hfn F hsc his hlen rfl fun h k hk => ?_
  · show callerA.depth + 1 < recursionLimit
    decide
  · show callerA.units + 3 + 64 < cLine
    decide
  · exact hq h k hk
end
end Mine

namespace Mine

/-- the one context of the claim's own caller -/
abbrev callerCtx : Ctx := ⟨.builtin "claim.caller" {}, none, none, [], none⟩

/-- the walk's premise at that one context alone -/
abbrev WalkAt (q : Program) (loose : List Str) (XP : (Str → Option Value) → Heap → Prop) (YP : World → Heap → Prop) (r : RowW) (d : DefRec) (kwd : List (Str × Expr)) : Prop :=
  ∀ (w : World) (s₀ s₁ : Shared) (mg mb : Str → Option Value), Ground q loose r.records XP w s₀ mg mb s₁.heap → YP w s₁.heap → ∀ (a : Addr) (o : Obj) (pm cd doc dV kV : Value), s₁.heap.get? a = some o →
    o.data = .func { docDef d.name d.params d.body d.scope pm cd doc with defaults := dV, kwdefaults := kV } → s₁.heap.CodeRec cd d.name → Dflts mg s₁.heap d.params kwd dV kV → mg d.name = some (.ref a) → s₁.gens = #[] →
    ∀ (args : List WData) (vals : List Value) (as : List Addr), r.claim.pre args = true → WData.layableAll args = true → ReadsAllW r.records (classAt s₀.heap) s₁.heap vals args as → WellAll w.params s₁.heap vals args → (∀ a ∈ as, (a == sysModules) = false) →
      ∀ p, Sem.wp (model r.prog w) callerCtx (PySem.call (.ref a) vals) (fun v _ s' => GoodWG r.claim (classAt s₀.heap) (ExcName.means s₀.heap) args s₁ (.ok (.ret v)) s')
        (fun e _ s' => GoodWG r.claim (classAt s₀.heap) (ExcName.means s₀.heap) args s₁ (.error e) s') p s₁

theorem caller_halts {prog : Program} {w : World} {t : Sem Fin} {s : Shared} {R : Result → Shared → Prop} (hz : s.asleep)
    (h : Sem.wp (model prog w) callerCtx t (fun fin _ s' => ∃ f, fin = .done f ∧ R (.ok f) s' ∧ leftWithCleanup s'.gens = false) (fun e _ s' => R (.error e) s' ∧ leftWithCleanup s'.gens = false) default s) :
    ∃ n r s' s'', runN (denote table) prog w n s ⟨t, .builtin "claim.caller" {}, default, []⟩ = .halted (outcomeOf r) s' ∧
      schedN (denote table) prog w n (.single s ⟨t, .builtin "claim.caller" {}, default, []⟩) = .halted (outcomeOf r) s' ∧ s'.forget = s''.forget ∧ R r s'' := by
  have h2 := Sem.wp_mono (post' := Sem.finPost (model prog w) callerCtx fun r s' => R r s' ∧ leftWithCleanup s'.gens = false) (exc' := fun e _ s' => R (.error e) s' ∧ leftWithCleanup s'.gens = false)
    (model prog w) callerCtx t (fun fin p' s' x => by obtain ⟨f, rfl, y⟩ := x; exact y) (fun _ _ _ x => x) default s h
  obtain ⟨n, r, s1, s2, a, b, c, d⟩ := wp_halts_full (M := model prog w) (R := R) hz h2
  exact ⟨n, r, s2, s1, b, a, c, d⟩

theorem PySem.W.holds_open {r : OpenRow} {q : Program} {loose : List Str} {Xt : Shared → Bool} {XP : (Str → Option Value) → Heap → Prop} {α : Type} {Yf : Shared → α} {Ya : World → α} {YP : World → Heap → Prop} {d : DefRec} {kwd : List (Str × Expr)} {N : Nat}
    (left : LeftO r.prog q loose Xt Yf Ya N) (hY : ∀ w s, Yf s = Ya w → YP w s.heap) (hYk : ∀ w h h', YP w h → (∀ b o, h.get? b = some o → h'.get? b = some o) → YP w h')
    (hX : ∀ s, Xt s = true → XP (s.heap.nsMap mainGlobals) s.heap) (hXk : ∀ mg h h', XP mg h → (∀ b o, h.get? b = some o → h'.get? b = some o) → XP mg h')
    (hdef : defOf q r.name = some (d, kwd)) (hp : r.prog.theDef r.name = some (d.params, d.body, d.scope)) (hk : kwWritten? d.params.kwonlyargs d.params.kw_defaults = some kwd) (hRf : ∀ s, Xt s = true → RecFacts r.records s.heap) (hwr : (!r.writes || r.records.isEmpty) = true)
    (k1 : r.wellSaid = true) (ok : (chainsOk q && opensWell r.prog && (frees r.toRowW && r.within.isEmpty)) = true) (hb : r.prog.bare) (hw : r.toRowW.promised)
    (call : WalkAt q loose XP YP r.toRowW d kwd) : r.Holds := by
  simp only [Bool.and_eq_true] at ok
  obtain ⟨⟨hch, hop⟩, hfr, hwi⟩ := ok
  obtain ⟨hsame, hun, hal1, hap, hmk⟩ := frees_parts hfr
  have hwi : r.claim.within = [] := List.isEmpty_iff.mp hwi
  refine ⟨k1, hw, ⟨hb, hop, by show r.makers.map _ = []; rw [hmk]; rfl⟩, hw.witness, fun w => ?_⟩
  have LB := left.behind (XP := fun mg h => XP mg h ∧ RecFacts r.records h) (fun s e => ⟨hX s e, hRf s e⟩) hch w
  refine ⟨LB.1, fun sr hsr => ?_⟩
  obtain ⟨s₀, hfence, hg0, s, hTop, hz, hgn, hns, G1, y⟩ := LB.2 sr hsr
  have hgens : s.gens = #[] := Array.eq_empty_of_size_eq_zero (beq_iff_eq.mp hgn)
  have G0 : Ground q loose [] XP w s (s.heap.nsMap mainGlobals) (s.heap.nsMap builtinsNs) s.heap :=
    ⟨G1.T, G1.B, G1.D, G1.TE, G1.TD, G1.W, G1.X.1, G1.cls, G1.has, G1.apart, G1.once, G1.K⟩
  have RF := G1.X.2
  refine ⟨s₀, hfence, hg0, s, hTop, ?_, RF.1, RF.2.1, ?_⟩
  · intro n hn
    obtain rfl : n = r.name := by split at hn <;> simp_all
    exact pinned_of_view hns G0 hdef hp hk
  have G : Ground q loose r.records XP w s _ _ s.heap := RF.ground G0
  intro args hpre hlay ord hord
  obtain ⟨⟨vs, s₁⟩, hlaid⟩ := Option.isSome_iff_exists.mp (layAllW_isSome (P := w.params) (ord := ord) G.has args r.args s (pre_splitW hpre).1)
  have keeps := layAllW_keeps _ _ _ hlaid
  have rest := layAllW_rest _ _ _ hlaid
  obtain ⟨as, hrd, hin, hold⟩ := reads_layAllW hord _ _ _ hlaid hlay s₁.heap (fun _ _ e => e)
  have L : Laid r.records w s s₁ args vs as := ⟨⟨ord, hord, hlaid⟩, hrd, hin, hold, keeps, rest.1.trans hgens, rest.2.2.1⟩
  have G2 := G.keeps hXk keeps
  obtain ⟨a, o, pm, cd, doc, dV, kV, h1, h2, h3, h4, h5⟩ := G2.fn hdef
  have hi := ident_freeW hun hal1 hap
  have done := call w s s₁ _ _ G2 (hYk _ _ _ (hY w s y) keeps) a o pm cd doc dV kV h2 h3 h4 h5 (defOf_name hdef ▸ h1) L.gens args vs as hpre hlay L.reads L.well (L.low G.low) default
  have fin : ∀ (res : Result) (s' : Shared), GoodWG r.claim (classAt s.heap) (ExcName.means s.heap) args s₁ res s' →
      (r.claim.Ends s args vs s₁ res s' ∧ s'.os = s.os ∧ (r.writes = true → namesKept r.claim.prog r.keeps s.heap s'.heap ∧ ∀ x ∈ r.claim.records, ∀ a, classAt s.heap x.1 = some a → recordClass s'.heap a x.1 (x.2.map (·.1)) = true)) ∧ leftWithCleanup s'.gens = false := fun res s' g => by
    have z := g.laid (c := r.claim) hsame hwi hi L
    exact ⟨⟨z.1, z.2.1, fun wr => ⟨namesKept_of hTop hns r.keeps keeps g.2.1.old, noTable hwr wr⟩⟩, leftWithCleanup_false_of_bare z.2.2⟩
  obtain ⟨n, res, s', s'', hrun, hsched, hfo, hends, hos, hkept⟩ := caller_halts (prog := r.prog) (w := w)
    (t := do match ← nsGet mainNs r.name with
      | some f => do ret (← PySem.call f vs)
      | none => unsupported "claim.caller:no-such-global")
    (s := s₁) (R := fun res s' => r.claim.Ends s args vs s₁ res s' ∧ s'.os = s.os ∧ (r.writes = true → namesKept r.claim.prog r.keeps s.heap s'.heap ∧ ∀ x ∈ r.claim.records, ∀ a, classAt s.heap x.1 = some a → recordClass s'.heap a x.1 (x.2.map (·.1)) = true))
    (Shared.asleep_of_life rest.2.2.2 hz) (by
      rw [Sem.wp_bind']
      refine (Sem.wp_nsGet _ _ _ _ _ G2.T.g _ _).mpr ?_
      dsimp only
      rw [h1, Sem.wp_bind']
      refine Sem.wp_mono _ _ _ (fun v p' s' g => ?_) (fun e p' s' g => fin _ _ g) _ _ done
      exact ⟨_, rfl, fin _ _ g⟩)
  obtain ⟨eh, _, _, eo, _⟩ := Shared.forget_eq hfo
  have hends := hends.congr eh
  rw [← eh] at hkept
  rw [← eo] at hos
  have hlife : s'.heap.life = s.heap.life := (runN_life _ _ _ hrun).trans rest.2.2.2
  refine ⟨vs, s₁, hlaid, n, _, s', hsched, ?_, (fun _ i x hx => by rw [hgens] at hx; simp at hx), hkept, by rw [hlife], Shared.rest_eq hos⟩
  rcases hends with ⟨v, rfl, d1, d2, d3, d4, d5⟩ | ⟨e, ob, cls, rfl, d1, d2, d3, d4, d5⟩
  · exact .inl ⟨v, rfl, d1, d2, d3, fun b o y _ => d4 b o y, d5⟩
  · exact .inr ⟨e, ob, cls, rfl, d1, d2, d3, d4, fun b o y _ => d5 b o y⟩
end Mine

namespace Mine
set_option maxRecDepth 100000
set_option maxHeartbeats 8000000

/-- the globals, of the ground's top -/
theorem glb_of {q : Program} {mean : ExcName → Option Value} {mg mb : PySem.Str → Option Value} {h : Heap} (T : Top q [] mean mg mb h)
    (hmod : valOf q "_MODX" = some (.int 4102))
    (hfree : ∀ x ∈ (["len", "min", "bytearray", "bytes", "list", "range"] : List PySem.Str), x ∉ startupNames ∧ x ∉ ([] : List PySem.Str) ∧ x ∉ (recsOf q).map (·.name) ∧ x ∉ (litsOf q).map (·.1) ∧ x ∉ (clssOf q []).map (·.name)) : Glb mg mb h := by
  have fr : ∀ x ∈ (["len", "min", "bytearray", "bytes", "list", "range"] : List PySem.Str), mg x = none := fun x hx => T.free x (hfree x hx).1 (hfree x hx).2.1 (hfree x hx).2.2.1 (hfree x hx).2.2.2.1 (hfree x hx).2.2.2.2
  refine ⟨T.g, T.b, T.nolimit, ?_, ⟨fr _ (by decide), fr _ (by decide), fr _ (by decide), fr _ (by decide), fr _ (by decide), fr _ (by decide)⟩, ?_⟩
  · obtain ⟨v, hv, hr⟩ := T.const "_MODX" _ hmod
    obtain ⟨t, rfl, -⟩ := reads_int_inv (hr h)
    exact ⟨t, hv⟩
  · refine ⟨?_, ?_, ?_, ?_, ?_, ?_⟩ <;> (rw [T.builtins _ (by decide)]; rfl)

/-- from the clean logic to the one context of the caller -/
theorem run_C {M : Model} {t : Sem Value} {Q E : Value → Shared → Prop} {s : Shared} {p : Pos} (h : wpC M callerA t Q (fun _ _ => False) s) : Sem.wp M callerCtx t (fun v _ s' => Q v s') (fun e _ s' => E e s') p s :=
  Sem.wp_mono _ _ _ (fun _ _ _ x => x) (fun _ _ _ x => x.elim) _ _ (h callerCtx p caller_in ⟨by decide, fun x hx => nomatch hx⟩)

open_top hd for PySem.Challenge.rw_lc0003_01
theorem main : PySem.Challenge.rw_lc0003_01.Holds := hd (by
  intro w s₀ s₁ mg mb G Y fa o pm cd doc dV kV ho hd hcd hD hmg hg args vals as hpre hlay hrd hwl hlo
  refine Ground.open G ?_
  intro T B D TE TW
  wrow_args hpre hlay hrd hwl hlo
  have he := Dflts.none hD rfl
  subst he
  rename Heap.IsList _ _ _ => hL
  rename IntsAre _ _ => hI
  rename ¬ _ => hc
  obtain ⟨af, fo, pmf, cdf, docf, hfn, hfo, hfd, hfc⟩ := T.fn ⟨"fletcher_checksum", flParams, flBody, flScope, flSt.pos⟩ (List.mem_of_getElem? (i := 0) (by rfl))
  have GG : Glb mg mb s₁.heap := glb_of T (by rfl) (by decide +kernel)
  have X : FnAt s₁.heap af fo pmf cdf docf := ⟨hfo, hfd, hfc⟩
  intro p
  refine run_C (law_call GG X hfn ho hd hcd hL hI (by omega) fun h k hk => ?_)
  refine GoodW.toG ⟨.inl ⟨_, .bool true, [], rfl, ?_, .bool true, ?_, fun _ => ⟨.nil, fun _ ha => nomatch ha⟩⟩, hk, rfl, hg⟩
  · exact fun cls => rfl
  · wrow_post)
end Mine
theorem PySem.Challenge.cw_lc0003_01_holds : PySem.Challenge.rw_lc0003_01.Holds :=
  Mine.main

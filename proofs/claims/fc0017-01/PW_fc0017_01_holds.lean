import PyProof.Rows.All
import Wide.All
import OpenK.AllK
import Wide.FinOn
import Lean
import PySem.Challenge.RW_fc0017_01
set_option Elab.async false
set_option linter.all false

section
open PySem PySem.W PySem.Spec PySem.Calls PyProof.Rows
set_option Elab.async false
set_option maxRecDepth 100000
set_option maxHeartbeats 8000000
namespace Mine
/-- the claim's caller stands in the stack below -/
def HC (G : PySem.Ctx) : Prop := G.below.any (fun c => c.1.isCaller) = true
def wpC {α : Type} (M : Model) (A : Around) (t : Sem α) (Q : α → Shared → Prop) (E : Value → Shared → Prop) (s : Shared) : Prop :=
  ∀ G p, G.In A → HC G → Sem.wp M G t (fun a _ s' => Q a s') (fun e _ s' => E e s') p s
def codeC (M : Model) (A : Around) (c : Code) (R : Result → Shared → Prop) (s : Shared) : Prop :=
  ∀ G p, G.code = c → G.Below A → HC G → wpCode M G R p s
section
variable {α β : Type} {M : Model} {A : Around} {E : Value → Shared → Prop} {s : Shared}
theorem wpC_of {t : Sem α} {Q : α → Shared → Prop} (h : wpAny M A t Q E s) : wpC M A t Q E s := fun G p hG _ => h G p hG
theorem codeC_of {c : Code} {R : Result → Shared → Prop} (h : codeAny M A c R s) : codeC M A c R s := fun G p hc hG _ => h G p hc hG
theorem wpC_mono {t : Sem α} {Q Q' : α → Shared → Prop} {E' : Value → Shared → Prop} (h : wpC M A t Q E s) (hQ : ∀ a s, Q a s → Q' a s) (hE : ∀ e s, E e s → E' e s) : wpC M A t Q' E' s :=
  fun G p hG hc => Sem.wp_mono M G t (fun a _ s => hQ a s) (fun e _ s => hE e s) p s (h G p hG hc)
theorem wpC_bind {m : Sem α} {f : α → Sem β} {Q : β → Shared → Prop} (h : wpC M A m (fun a s' => wpC M A (f a) Q E s') E s) : wpC M A (m >>= f) Q E s := fun G p hG hc => by
  rw [Sem.wp_bind']
  exact Sem.wp_mono M G m (fun a p' s' h' => h' G p' hG hc) (fun _ _ _ h' => h') p s (h G p hG hc)
theorem wpC_lift_bind {m : Sem α} {f : α → Sem β} {Q : β → Shared → Prop} (h : wpAny M A m (fun a s' => wpC M A (f a) Q E s') E s) : wpC M A (m >>= f) Q E s := wpC_bind (wpC_of h)
theorem wpC_try {m : Sem α} {k : Value → Sem α} {Q : α → Shared → Prop} (h : wpC M A m Q (fun e s' => wpC M A (k e) Q E s') s) : wpC M A (tryCatch m k) Q E s := fun G p hG hc => by
  rw [Sem.wp_tryCatch']
  exact Sem.wp_mono M G m (fun _ _ _ h' => h') (fun e p' s' h' => h' G p' hG hc) p s (h G p hG hc)
theorem wpC_onRaise {m : Sem α} {k : Value → Sem Unit} {Q : α → Shared → Prop} (h : wpC M A m Q (fun e s' => wpC M A (k e) (fun _ s'' => E e s'') E s') s) : wpC M A (m.onRaise k) Q E s := fun G p hG hc => by
  rw [Sem.wp_onRaise]
  exact Sem.wp_mono M G m (fun _ _ _ h' => h') (fun e p' s' h' => h' G p' hG hc) p s (h G p hG hc)
theorem wpC_holding {vs : List Value} {m : Sem α} {Q : α → Shared → Prop} (h : wpC M A m Q E s) : wpC M A (holding vs m) Q E s := fun G p hG hc => by rw [Sem.wp_holding]; exact h G p hG hc
theorem wpC_stack {Q : List (Code × Pos) → Shared → Prop} (h : ∀ st : List (Code × Pos), st.any (fun c => c.1.isCaller) = true → Q st s) : wpC M A stack Q E s := fun G p _ hc =>
  h ((G.code, p) :: G.below) (by rw [List.any_cons, hc, Bool.or_true])
theorem HC.enter {G : PySem.Ctx} (h : HC G) (c : Code) (hd : Option Value) (p : Pos) : HC (G.enter c hd p) := by
  show ((G.code, p) :: G.below).any _ = true
  rw [List.any_cons, h, Bool.or_true]
theorem codeC_of_tree {c : Code} {R : Result → Shared → Prop}
    (h : wpC M (A.under c) (M.den c) (fun fin s' => match fin with | .done f => R (.ok f) s' | .again c' => c'.quiet = true ∧ codeC M A c' R s') (fun e s' => R (.error e) s') s) : codeC M A c R s := fun G p hc hG hk => by
  rw [wpCode_iff_wp, hc]
  refine Sem.wp_mono M G _ (fun fin p' s' h' => ?_) (fun _ _ _ h' => h') p s (h G p (hc ▸ hG.in) hk)
  cases fin with
  | done f => exact h'
  | again c' => exact ⟨h'.1, h'.2 (G.goto c') p' rfl (hG.goto c') hk⟩
theorem wpC_runValue {c : Code} {Q : Value → Shared → Prop} (hc : codeC M A c (fun r s' => match r with | .ok (.ret v) => Q v s' | .ok _ => False | .error e => E e s') s) : wpC M A (runValue c) Q E s := fun G p hG hk => by
  rw [Sem.wp_runValue]; exact hc _ p rfl (hG.enter c none p (by intro x; cases x)) (hk.enter c none p)
theorem wpC_call {f : Value} {pos : List Value} {kw : List (Str × Value)} {Q : Value → Shared → Prop} (hc : codeC M A (.call f ⟨pos, kw⟩) (fun r s' => match r with | .ok (.ret v) => Q v s' | .ok _ => False | .error e => E e s') s) :
    wpC M A (PySem.call f pos kw) Q E s := wpC_runValue hc
/-- in such a stack no refusal is marked -/
theorem wpC_noMark {own : List String} {e : Value} {Q : Unit → Shared → Prop} (h : Q () s) : wpC M A (markTheRefusal own e) Q E s := by
  unfold markTheRefusal
  refine wpC_bind (wpC_stack fun st hst => ?_)
  have hf : pythonCodeMadeTheCall own (st.map (·.1)) = false := by
    unfold pythonCodeMadeTheCall
    have key : ∀ b1 b2 b3 : Bool, b1 = true → (!b1 && b2 && b3) = false := by intro b1 b2 b3 h; subst h; rfl
    refine key _ _ _ ?_
    rw [List.any_map]
    obtain ⟨x, hx, hc⟩ := List.any_eq_true.mp hst
    exact List.any_eq_true.mpr ⟨x, hx, hc⟩
  rw [hf]
  exact wpC_of (wpAny_pure h)
end
end Mine
end

section
open PySem PySem.W PySem.Spec PySem.Calls PySem.NumText PyProof.Rows
set_option Elab.async false
set_option maxRecDepth 100000
set_option maxHeartbeats 8000000
namespace Mine
theorem wpC_pos {α : Type} {M : Model} {A : Around} {E : Value → Shared → Prop} {s : Shared} {c : Prop} [i : Decidable c] {a b : Sem α} {Q : α → Shared → Prop} (hc : c) (h : wpC M A a Q E s) : wpC M A (if c then a else b) Q E s := by rw [if_pos hc]; exact h
theorem text_refused {prog : Program} {w : World} {A : Around} {E : Value → Shared → Prop} {s : Shared} {Q : Value → Shared → Prop} {x : PySem.Str} {t : Tok} {text : List Nat} (hh : A.handled = none)
    (hs : (text.takeWhile (· != 0)).length ≤ 640) (hr : (int_private% "readNumeral") 0 10 (text.takeWhile (· != 0)) = (int_private% "Numeral.invalid")) (hx : (reprText x).length ≤ 1000)
    (hE : ∀ h' tk e, Heap.NewExc s.heap h' e "ValueError" → E (.ref e) { s with heap := h', toks := tk }) :
    wpC (model prog w) A ((int_private% "intFromText") (.str x t) text 10) Q E s := by
  refine wpC_pos hs ?_
  refine wpC_bind (wpC_of (wpAny_pure ?_))
  dsimp only
  rw [hr]
  dsimp only
  refine wpC_bind (wpC_of (wpAny_of_eq (a := none) rfl ?_))
  rw [if_neg (by simp)]
  refine wpC_bind (wpC_of (wpAny_rule ?_))
  refine wpC_bind (wpC_of (wpAny_of_eq (a := none) rfl ?_))
  dsimp only
  refine wpC_bind (wpC_of (wpAny_pyRepr_str ?_ (by unfold sizeLine; omega)))
  refine wpC_bind (wpC_of (wpAny_mkStr ?_ ?_))
  rotate_left
  · rw [Str.length_append]
    have h2 : (⟨(reprText x).cps.extract 0 200⟩ : Str).length ≤ 200 := by
      show ((reprText x).cps.extract 0 200).size ≤ 200
      rw [Array.size_extract]; omega
    exact Nat.le_trans (Nat.add_le_add (b := 1000) (by decide +kernel) h2) (by unfold sizeLine; decide)
  refine wpC_bind (wpC_of (wpAny_newExc_plain plainExc_ValueError ?_))
  intro h' e hm
  refine wpC_bind (wpC_noMark ?_)
  refine wpC_of (wpAny_raiseNew_none hh ?_)
  exact hE _ _ _ (Heap.MadeExc.newExc hm)
end Mine
end

section
open PySem PySem.W PySem.Spec PySem.Calls PySem.NumText PyProof.Rows
set_option Elab.async false
set_option maxRecDepth 100000
set_option maxHeartbeats 8000000
namespace Mine
theorem new_refused {prog : Program} {w : World} {A : Around} {E : Value → Shared → Prop} {s : Shared} {Q : Fin → Shared → Prop} {x : PySem.Str} {u : Tok} (hh : A.handled = none)
    (hl : x.length ≤ 640) (hr : (int_private% "readNumeral") 0 10 (numSeenOf x) = (int_private% "Numeral.invalid")) (hx : (reprText x).length ≤ 1000)
    (hE : ∀ h' tk e, Heap.NewExc s.heap h' e "ValueError" → E (.ref e) { s with heap := h', toks := tk }) :
    wpC (model prog w) A (Builtin.«int.__new__» ⟨[.type "int", .str x u], []⟩) Q E s := by
  have hs : (numSeenOf x).length ≤ 640 := Nat.le_trans (seen_length x) hl
  have f1 := F.conv_sub_int
  have f2 := F.madeHere_int
  have f3 := KIN.str_int
  have f4 := KIN.str_idx
  have f5 := KIN.str_trunc
  have f6 : typeOf (.str x u) = pure (.type "str") := rfl
  refine wpC_bind (wpC_of (wpAny_of_eq (a := true) rfl ?_))
  refine wpC_bind (wpC_of (wpAny_of_eq f1 ?_))
  refine wpC_bind (wpC_of (wpAny_of_eq f2 ?_))
  dsimp only
  rw [if_neg (by simp), if_neg (by simp)]
  rw [List.forIn_nil]
  refine wpC_bind (wpC_of (wpAny_pure ?_))
  (try dsimp only)
  refine wpC_bind ?_
  refine wpC_bind (wpC_of ?_)
  unfold callSpecial?
  refine wpAny_bind (wpAny_specialOf (typeIs_str s x u) f3 ?_)
  refine wpAny_pure ?_
  (try dsimp only)
  refine wpC_bind (wpC_of (wpAny_specialOf (typeIs_str s x u) f4 ?_))
  rw [if_neg (by simp)]
  refine wpC_bind (wpC_of (wpAny_specialOf (typeIs_str s x u) f5 ?_))
  (try dsimp only)
  refine wpC_bind (wpC_of (wpAny_of_eq (a := some (numTextOf x)) rfl ?_))
  (try dsimp only)
  exact text_refused hh hs hr hx hE
end Mine
end

section
open PySem PySem.W PySem.Spec PySem.Calls PySem.NumText PyProof.Rows
set_option Elab.async false
set_option maxRecDepth 100000
set_option maxHeartbeats 8000000
namespace Mine
section
variable {prog : Program} {w : World} {A : Around} {E : Value → Shared → Prop} {s : Shared}
theorem wpC_neg {α : Type} {M : Model} {c : Prop} [i : Decidable c] {a b : Sem α} {Q : α → Shared → Prop} (hc : ¬c) (h : wpC M A b Q E s) : wpC M A (if c then a else b) Q E s := by rw [if_neg hc]; exact h
theorem codeC_builtin {id : String} {args : Args} {b : Builtin} {R : Result → Shared → Prop} (hb : entryFor table id = some b)
    (h : wpC (model prog w) (A.under (.builtin id args)) (b args)
      (fun fin s' => match fin with | .done f => R (.ok f) s' | .again c' => c'.quiet = true ∧ codeC (model prog w) A c' R s') (fun e s' => R (.error e) s') s) :
    codeC (model prog w) A (.builtin id args) R s := by
  refine codeC_of_tree ?_
  show wpC _ _ (match entryFor table id with | some b => b args | none => unsupported ((withoutEnding? id "#data").getD id)) _ _ s
  rw [hb]; exact h
theorem callC_int {Q : Value → Shared → Prop} {x : PySem.Str} {u : Tok} (hh : A.handled = none)
    (hl : x.length ≤ 640) (hr : (int_private% "readNumeral") 0 10 (numSeenOf x) = (int_private% "Numeral.invalid")) (hx : (reprText x).length ≤ 1000)
    (hE : ∀ h' tk e, Heap.NewExc s.heap h' e "ValueError" → E (.ref e) { s with heap := h', toks := tk }) :
    wpC (model prog w) A (call (.type "int") [.str x u]) Q E s := by
  obtain ⟨c, tl, hmro⟩ := F.called_int.mro
  have hmade := F.called_int.made
  refine wpC_call (codeC_of_tree ?_)
  show wpC _ _ (callAny (.type "int") _) _ _ _
  refine wpC_of (wpAny_pure ⟨Code.quiet_builtin _ (by decide +kernel), codeC_builtin F.entry_type_call ?_⟩)
  rw [Around.under_plain (weight_type_call_type "int" [.str x u] []) (units_type_call_type "int" [.str x u] [])]
  have h1 := F.called_int.notType
  have h2 := F.called_int.canCreate
  unfold Builtin.«type.__call__»
  dsimp only
  with_reducible refine wpC_neg (by rw [h1]; decide) ?_
  with_reducible refine wpC_neg (by rw [h2]; decide) ?_
  refine wpC_bind (wpC_of (wpAny_of_eq (F.typeCall_int_1 _) ?_))
  refine wpC_bind (wpC_of (wpAny_of_eq hmro ?_))
  refine wpC_neg (by simp) ?_
  refine wpC_bind (wpC_of (wpAny_of_eq hmade ?_))
  (try dsimp only)
  refine wpC_bind (wpC_of (wpAny_pure ?_))
  (try dsimp only)
  refine wpC_bind (wpC_holding (wpC_call (codeC_of_tree ?_)))
  show wpC _ _ (do checkBuiltinCall "int.__new__" _; again (.builtin "int.__new__" _)) _ _ s
  refine wpC_bind (wpC_of (wpAny_of_eq (F.newCall_int_1 _) (wpC_of (wpAny_pure ⟨plainId_quiet F.called_int.plain _, codeC_builtin F.entry_int_new ?_⟩))))
  rw [Around.under_plainId F.called_int.plain _]
  refine new_refused hh hl hr hx ?_
  exact hE
end
end Mine
end

section
open PySem PySem.W PySem.Spec PySem.Calls PySem.NumText PyProof.Rows
set_option Elab.async false
set_option maxRecDepth 100000
set_option maxHeartbeats 8000000
namespace Mine
section
variable {α β : Type} {M : Model} {A : Around} {E : Value → Shared → Prop} {s : Shared} {env : Env}
theorem codeC_mono {c : Code} {R R' : Result → Shared → Prop} (h : codeC M A c R s) (hR : ∀ r s, R r s → R' r s) : codeC M A c R' s := fun G p hc hG hk =>
  let ⟨r, s', h1, h2⟩ := h G p hc hG hk
  ⟨r, s', h1, hR _ _ h2⟩
theorem wpC_pure {a : α} {Q : α → Shared → Prop} (h : Q a s) : wpC M A (pure a) Q E s := wpC_of (wpAny_pure h)
theorem wpC_keep {vs : List Value} {m : Sem α} {Q : α → Shared → Prop} (h : wpC M A m Q E s) : wpC M A (m.keep vs) Q E s := fun G p hG hk => by
  rw [Sem.wp_keep]; exact h G p hG hk
theorem wpC_attempt {m : Sem α} {Q : Except Value α → Shared → Prop} (h : wpC M A m (fun a => Q (.ok a)) (fun e => Q (.error e)) s) : wpC M A m.attempt Q E s := fun G p hG hk => by
  rw [Sem.wp_attempt]; exact h G p hG hk
theorem wpC_run {c : Code} {h : Option Value} {Q : Flow → Shared → Prop} (hc : codeC M (A.mark h) c (fun r s' => match r with | .ok f => Q f s' | .error e => E e s') s) (hnb : h ≠ some byPass := by intro x; cases x) :
    wpC M A (run c h) Q E s := fun G p hG hk => by
  rw [Sem.wp_run]; exact hc _ p rfl (hG.enter c h p hnb) (hk.enter c h p)
theorem wpC_runOwn {c : Code} {Q : Flow → Shared → Prop} (hc : codeC M (A.mark none) c (fun r s' => match r with | .ok f => Q f s' | .error e => cameBackBy M A env E e s') s) : wpC M A (runOwn c env) Q E s := by
  unfold runOwn
  exact wpC_onRaise (wpC_mono (wpC_run hc) (fun _ _ h => h) fun _ _ h => wpC_of h)
theorem wpC_execs_cons {st : Stmt} {rest : List Stmt} {Q : Flow → Shared → Prop}
    (h : wpC M A (exec st env) (fun f s' => match f with | .next => wpC M A (execs rest env) Q E s' | f => Q f s') E s) : wpC M A (execs (st :: rest) env) Q E s := by
  rw [execs_cons]
  refine wpC_bind (wpC_mono h (fun f s' h' => ?_) fun _ _ h' => h')
  cases f <;> first | exact h' | exact wpC_pure h'
theorem execs_app (l₁ l₂ : List Stmt) (env : Env) : execs (l₁ ++ l₂) env = (do match ← execs l₁ env with | .next => execs l₂ env | f => pure f) := by
  induction l₁ with
  | nil => rw [execs_nil, List.nil_append, pure_bind]
  | cons st rest ih =>
    rw [List.cons_append, execs_cons, execs_cons, bind_assoc]
    congr 1
    funext f
    cases f <;> first | exact ih | rw [pure_bind]
theorem wpC_execs_app {l₁ l₂ : List Stmt} {Q : Flow → Shared → Prop} 
    (h : wpAny M A (execs l₁ env) (fun f s' => match f with | .next => wpC M A (execs l₂ env) Q E s' | f => Q f s') E s) : wpC M A (execs (l₁ ++ l₂) env) Q E s := by
  rw [execs_app]
  refine wpC_bind (wpC_mono (wpC_of h) (fun f s' h' => ?_) fun _ _ h' => h')
  cases f <;> first | exact h' | exact wpC_pure h'
theorem wpC_If {test : Expr} {body orelse : List Stmt} {pos : Pos} {Q : Flow → Shared → Prop}
    (h : wpC M A (isTrue test env (eval test env)) (fun b s₁ => if b then wpC M A (execs body env) Q E s₁ else wpC M A (execs orelse env) Q E s₁) E s) : wpC M A (exec (.If test body orelse pos) env) Q E s := by
  rw [arm_exec_If]
  refine wpC_bind (wpC_of (wpAny_standAt ?_))
  refine wpC_bind (wpC_mono h (fun b s' h' => ?_) fun _ _ h' => h')
  cases b <;> exact h'
theorem wpC_isTrue_Or {x y : Expr} {pos : Pos} {whole : Sem Value} {Q : Bool → Shared → Prop}
    (h : wpC M A (isTrue x env (eval x env)) (fun b s₁ => if b then Q true s₁ else wpC M A (isTrue y env (eval y env)) Q E s₁) E s) : wpC M A (isTrue (.BoolOp .Or [x, y] pos) env whole) Q E s := by
  rw [PySem.isTrue, allTrue]
  refine wpC_bind (wpC_mono h (fun b s' h' => ?_) fun _ _ h' => h')
  cases b with
  | true => exact wpC_pure h'
  | false =>
    dsimp only
    rw [allTrue]
    refine wpC_bind (wpC_mono h' (fun b s' h' => ?_) fun _ _ h' => h')
    cases b with
    | true => exact wpC_pure h'
    | false => dsimp only; rw [allTrue]; exact wpC_pure h'
theorem wpC_isTrue_Not {x : Expr} {pos : Pos} {whole : Sem Value} {Q : Bool → Shared → Prop}
    (h : wpC M A (isTrue x env (eval x env)) (fun b s₁ => Q (!b) s₁) E s) : wpC M A (isTrue (.UnaryOp .Not x pos) env whole) Q E s := by
  rw [PySem.isTrue]
  exact wpC_bind (wpC_mono h (fun b s' h' => wpC_pure h') fun _ _ h' => h')
theorem wpC_isTrue_Call {f : Expr} {args : List Expr} {kws : List Keyword} {pos : Pos} {Q : Bool → Shared → Prop}
    (h : wpC M A (eval (.Call f args kws pos) env) (fun v s₁ => wpAny M A (truthy v) Q E s₁) E s) : wpC M A (isTrue (.Call f args kws pos) env (eval (.Call f args kws pos) env)) Q E s := by
  rw [PySem.isTrue]
  · refine wpC_bind (wpC_mono h (fun v s' h' => ?_) fun _ _ h' => h')
    refine wpC_bind (wpC_of (wpAny_standAt ?_))
    exact wpC_holding (wpC_of h')
  all_goals (intros; rename_i q; cases q)
theorem callWithC_function {pos : Pos} {a : Addr} {o : Obj} {fd : FuncData} {first : List Value} {args : List (Bool × Sem Value)} {Q : Value → Shared → Prop}
    (h : wpAny M A (evalArgs (.ref a) true args []) (fun x s₁ => (s₁.heap.get? a = some o ∧ o.data = .func fd) ∧ wpC M A (call (.ref a) (first ++ x.pos) x.kw) Q E s₁) E s) :
    wpC M A (callWith pos (.ref a) first args []) Q E s := by
  unfold callWith
  refine wpC_bind (wpC_of (wpAny_holding (wpAny_mono h (fun x s₁ h₁ => ?_) fun _ _ x => x)))
  refine wpC_bind (wpC_of (wpAny_standAt ?_))
  have tail : ∀ {t : Sem Value}, wpC M A t Q E s₁ → wpC M A (t >>= fun r => holding [r] point >>= fun _ => pure r) Q E s₁ :=
    fun ht => wpC_bind (wpC_mono ht (fun r s₂ hr => wpC_of (wpAny_bind (wpAny_holding (wpAny_point (wpAny_pure hr))))) fun _ _ x => x)
  have plain : wpC M A (call (.ref a) (first ++ x.pos) x.kw) Q E s₁ := h₁.2
  refine wpC_bind (m := keeperOf (.ref a)) (wpC_of ?_)
  unfold keeperOf
  refine wpAny_bind (wpAny_load h₁.1.1 ?_)
  rw [h₁.1.2]
  refine wpAny_pure ?_
  dsimp only
  split
  · exact tail (by unfold callMarked; exact wpC_keep plain)
  · split
    · exact tail plain
    · exact tail (by unfold callMarked; exact wpC_keep plain)
  all_goals first | (rename_i q1 q2; cases q1; done) | (exfalso; simp_all; done) | skip
theorem wpC_Assign_Name {x : Str} {pos' : Pos} {value : Expr} {pos : Pos} {Q : Flow → Shared → Prop}
    (h : wpC M A (eval value env) (fun v s₁ => wpAny M A (storeName env x v) (fun _ => Q .next) E s₁) E s)
    (hs : swapsWith value (some (.Name x pos')) pos.line env = pure false := by rfl) : wpC M A (exec (.Assign [.Name x pos'] value pos) env) Q E s := by
  rw [exec_Assign_Name env x pos' value pos hs]
  refine wpC_bind (wpC_of (wpAny_standAt ?_))
  refine wpC_bind (wpC_mono h (fun v s' h' => ?_) fun _ _ h' => h')
  refine wpC_bind (wpC_of (wpAny_standAt ?_))
  exact wpC_bind (wpC_of (wpAny_bindName (wpAny_mono h' (fun _ _ h => wpC_pure h) fun _ _ h => h)))
theorem wpC_Call_Name {id : Str} {p pos : Pos} {args : List Expr} {Q : Value → Shared → Prop}
    (h : wpAny M A (eval (.Name id p) env) (fun f s₁ => ∃ a o fd, f = .ref a ∧ wpAny M A (evalArgs (.ref a) true (backTo pos (starEach args env)) []) (fun x s₂ => (s₂.heap.get? a = some o ∧ o.data = .func fd) ∧ wpC M A (call (.ref a) x.pos x.kw) Q E s₂) E s₁) E s) :
    wpC M A (eval (.Call (.Name id p) args [] pos) env) Q E s := by
  rw [arm_eval_Call_Name']
  refine wpC_bind (wpC_of (wpAny_mono h (fun f s₁ h₁ => ?_) fun _ _ h => h))
  obtain ⟨a, o, fd, rfl, h₁⟩ := h₁
  exact callWithC_function (first := []) h₁
theorem wpC_Call_type {id : Str} {p pos : Pos} {T : String} {args : List Expr} {Q : Value → Shared → Prop} (hplain : (backTo pos (starEach args env)).any (·.1) = false)
    (h : wpAny M A (eval (.Name id p) env) (fun f s₁ => f = .type T ∧ wpAny M A (evalArgs (.type T) true (backTo pos (starEach args env)) []) (fun x s₂ => wpC M A (call (.type T) x.pos x.kw) Q E s₂) E s₁) E s) :
    wpC M A (eval (.Call (.Name id p) args [] pos) env) Q E s := by
  rw [arm_eval_Call_Name']
  refine wpC_bind (wpC_of (wpAny_mono h (fun f s₁ h₁ => ?_) fun _ _ h => h))
  obtain ⟨rfl, h₁⟩ := h₁
  show wpC M A (callWith pos (.type T) [] (backTo pos (starEach args env)) []) Q E s₁
  unfold callWith
  refine wpC_bind (wpC_of (wpAny_holding (wpAny_mono h₁ (fun a s₁ h₁ => wpC_bind (wpC_of (wpAny_standAt ?_))) fun _ _ x => x)))
  simp only [hplain, List.any_nil, Bool.or_false]
  refine wpC_bind (wpC_pure ?_)
  exact wpC_bind (wpC_mono h₁ (fun r s₂ hr => wpC_of (wpAny_bind (wpAny_holding (wpAny_point (wpAny_pure hr))))) fun _ _ x => x)
theorem wpC_tryStmt {body orelse : Sem Flow} {h₀ : ExceptHandler} {hs : List ExceptHandler} {Q : Flow → Shared → Prop}
    (h : wpC M A body (fun f s₁ => match f with | .next => wpC M A orelse Q E s₁ | f => Q f s₁)
      (fun e s₁ => wpAny M A (noteFrame e env) (fun _ s₂ => wpAny M A (setFlight e none) (fun _ s₃ => wpAny M A (handleBy e env (h₀ :: hs)) Q E s₃) E s₂) E s₁) s) :
    wpC M A (tryStmt false body (h₀ :: hs) orelse [] env) Q E s := by
  unfold tryStmt
  simp only [List.isEmpty_nil, if_true, List.isEmpty_cons, Bool.false_and, Bool.false_eq_true, if_false]
  refine wpC_bind (wpC_attempt (wpC_mono h (fun f s₁ h₁ => ?_) fun e s₁ h₁ => ?_))
  · cases f <;> first | exact h₁ | exact wpC_pure h₁
  · exact wpC_bind (wpC_of (wpAny_mono h₁ (fun _ _ h₂ => wpC_bind (wpC_of (wpAny_mono h₂ (fun _ _ h₃ => wpC_of h₃) fun _ _ x => x))) fun _ _ x => x))
theorem wpC_Try {body orelse : List Stmt} {h₀ : ExceptHandler} {hs : List ExceptHandler} {pos : Pos} {Q : Flow → Shared → Prop}
    (h : wpC M A (execs body env) (fun f s₁ => match f with | .next => wpC M A (execs orelse env) Q E s₁ | f => Q f s₁)
      (fun e s₁ => wpAny M A (noteFrame e env) (fun _ s₂ => wpAny M A (setFlight e none) (fun _ s₃ => wpAny M A (handleBy e env (h₀ :: hs)) Q E s₃) E s₂) E s₁) s) :
    wpC M A (exec (.Try body (h₀ :: hs) orelse [] pos) env) Q E s := by
  rw [arm_exec_Try]
  exact wpC_bind (wpC_of (wpAny_standAt (wpC_tryStmt h)))
theorem wpC_Expr_Call {f : Expr} {args : List Expr} {pos' pos : Pos} {Q : Flow → Shared → Prop} (hi : interactive env = false) (hs : swapsWith (.Call f args [] pos') none pos.line env = pure false)
    (h : wpC M A (eval (.Call f args [] pos') env) (fun v s₁ => wpAny M A (dropValue (.Call f args [] pos') pos v) Q E s₁) E s) : wpC M A (exec (.Expr (.Call f args [] pos') pos) env) Q E s := by
  rw [arm_exec_Expr, hi, hs]
  refine wpC_bind (wpC_of (wpAny_standAt ?_))
  refine wpC_neg (by decide) ?_
  refine wpC_bind (wpC_pure ?_)
  refine wpC_neg (by decide) ?_
  exact wpC_bind (wpC_mono h (fun v s' h' => wpC_of h') fun _ _ h' => h')
end
section
variable {prog : Program} {w : World} {A : Around} {E : Value → Shared → Prop} {s : Shared} {env : Env}
theorem codeC_func {R : Result → Shared → Prop} {body : List Stmt}
    (h : wpC (model prog w) (A.deeper env) (execs body env) (fun f s' => R (.ok (.ret (match f with | .ret v => v | _ => .none))) s')
      (fun e s' => wpAny (model prog w) (A.deeper env) (leaving env e) (fun _ s'' => R (.error e) s'') (fun e' s'' => R (.error e') s'') s') s) :
    codeC (model prog w) A (.func body env) R s := by
  refine codeC_of_tree ?_
  show wpC _ (A.deeper env) (do point; match ← (execs body env).onRaise (leaving env) with | .ret v => ret v | _ => ret .none) _ _ s
  refine wpC_bind (wpC_of (wpAny_point (wpC_bind (wpC_onRaise (wpC_mono h (fun f s' h' => ?_) fun _ _ h' => wpC_of h')))))
  cases f <;> exact wpC_pure h'
theorem codeC_call_def {R : Result → Shared → Prop} {a : Addr} {o : Obj} {fd : FuncData} {body : List Stmt} {args : Args} {binds : List (Str × Value)}
    (hroom : A.depth < recursionLimit) (ho : s.heap.get? a = some o) (hdata : o.data = .func fd) (hlim : s.heap.NoLimit) (hcd : s.heap.CodeRec fd.code fd.qualname)
    (hbody : fd.body = .stmts body) (hbind : BindsTo s fd args binds)
    (hcell : ∀ x ∈ fd.scope.names, x.2 ≠ .cell) (hloc : ∀ x ∈ binds, fd.scope.names.lookup x.1 = some .local)
    (h : ∀ h₀, h₀.Ns s.heap.objs.size (fun x => binds.reverse.lookup x) → (∀ b o, s.heap.get? b = some o → h₀.get? b = some o) →
      wpC (model prog w) (A.deeper (callEnv fd s.heap.objs.size a)) (execs body (callEnv fd s.heap.objs.size a)) (fun f s' => R (.ok (.ret (match f with | .ret v => v | _ => .none))) s')
        (fun e s' => wpAny (model prog w) (A.deeper (callEnv fd s.heap.objs.size a)) (leaving (callEnv fd s.heap.objs.size a) e) (fun _ s'' => R (.error e) s'') (fun e' s'' => R (.error e') s'') s')
        { s with heap := h₀, toks := s.toks + binds.length })
    (hco : fd.scope.isCoroutine = false) (hgen : fd.scope.isGenerator = false) (hk : fd.scope.kind = .function) :
    codeC (model prog w) A (.call (.ref a) args) R s := by
  refine codeC_of_tree ?_
  show wpC _ A.in1 (callAny (.ref a) args) _ _ s
  simp only [callAny]
  refine wpC_bind (wpC_of (wpAny_load ho ?_))
  obtain ⟨c, oc, vs, tq, hc, hoc, hdc, hq⟩ := hcd
  simp only [hdata, callFunction, hco, hgen, hbody, hc]
  refine wpC_bind (m := field (.ref c) 1) (wpC_of (wpAny_field hoc hdc hq ?_))
  refine wpC_bind (wpC_pure ?_)
  refine wpC_bind (wpC_of (hbind _ _ _ _ ?_))
  refine wpC_bind (wpC_of ?_)
  rw [← hc]
  refine wpAny_newFunctionEnv hcell hloc (fun h₀ hns₀ hsb₀ => ?_) hk
  refine wpC_bind (wpC_of (wpAny_enterFrame (hlim.fresh _ hsb₀) hroom ?_))
  refine wpC_pure ⟨rfl, codeC_func (h h₀ hns₀ fun b o e => ?_)⟩
  exact hsb₀.extBut b o (Nat.ne_of_lt (Heap.lt_size e)) (Heap.get?_push_of_some _ e)
end
end Mine
end

section
open PySem PySem.W PySem.Spec PySem.Calls PySem.NumText PyProof.Rows
set_option Elab.async false
set_option maxRecDepth 100000
set_option maxHeartbeats 8000000
namespace Mine
section
variable {prog : Program} {w : World} {A : Around} {E : Value → Shared → Prop} {s : Shared} {env : Env} {h₀ : Heap}
theorem codeC_block {stmts : List Stmt} {R : Result → Shared → Prop}
    (h : wpAny (model prog w) A (execs stmts env) (fun f s' => R (.ok f) s') (notedBy (model prog w) A env fun e s' => R (.error e) s') s) : codeC (model prog w) A (.block stmts env) R s := codeC_of (codeAny_block h)
theorem wpC_noted {α : Type} {M : Model} {m : Sem α} {Q : α → Shared → Prop} (h : wpC M A m Q (notedBy M A env E) s) : wpC M A (m.onRaise fun x => do noteFrame x env; theTreesLotGoes x) Q E s :=
  wpC_onRaise (wpC_mono h (fun _ _ q => q) fun _ _ hx => wpC_of (wpAny_bind (wpAny_mono hx (fun _ _ e => wpAny_theTreesLotGoes e) fun _ _ e => e)))
theorem codeC_forLoop {R : Result → Shared → Prop} {target : Expr} {it : Value} {body orelse : List Stmt} (I : Nat → Shared → Prop)
    (turn : ∀ n s, I n s → wpAny (model prog w) A (pyNext it) (fun r s₁ => match r with
      | none => wpAny (model prog w) A (execs orelse env) (fun f s₃ => R (.ok f) s₃) (notedBy (model prog w) A env fun e s' => R (.error e) s') s₁
      | some v => wpAny (model prog w) A (assign target env v) (fun _ s₂ => wpC (model prog w) A (execs body env) (fun f s₃ => match f with
          | .next | .cont => ∃ m, m < n ∧ I m s₃
          | .brk => R (.ok .next) s₃
          | .ret v => R (.ok (.ret v)) s₃) (notedBy (model prog w) A env fun e s' => R (.error e) s') s₂) (notedBy (model prog w) A env fun e s' => R (.error e) s') s₁) (notedBy (model prog w) A env fun e s' => R (.error e) s') s)
    (n : Nat) (h : I n s) (ht : ∀ v, letOwnedTupleGo target it v = pure ()) : codeC (model prog w) A (.forLoop target it body orelse env) R s := by
  induction n using Nat.strongRecOn generalizing s with
  | ind n ih =>
    refine codeC_of_tree ?_
    show wpC _ _ ((forTurn target it body orelse env).onRaise (fun x => do noteFrame x env; theTreesLotGoes x)) _ _ s
    refine wpC_noted ?_
    simp only [forTurn]
    refine wpC_bind (wpC_of (wpAny_standAt ?_))
    refine wpC_bind (wpC_onRaise (wpC_mono (wpC_of (turn n s h)) (fun r s₁ h₁ => ?_) fun _ _ h' => wpC_of (wpAny_standAt h')))
    cases r with
    | none => exact wpC_pure ⟨rfl, codeC_block h₁⟩
    | some v =>
      refine wpC_bind (wpC_of (wpAny_of_eq (ht v) ?_))
      refine wpC_bind (wpC_mono (wpC_of h₁) (fun _ s₂ h₂ => ?_) fun _ _ h' => h')
      refine wpC_bind (wpC_mono h₂ (fun f s₃ h₃ => ?_) fun _ _ h' => h')
      cases f with
      | next => obtain ⟨m, hm, hI⟩ := h₃; exact wpC_pure ⟨rfl, ih m hm hI⟩
      | cont => obtain ⟨m, hm, hI⟩ := h₃; exact wpC_pure ⟨rfl, ih m hm hI⟩
      | brk => exact wpC_pure h₃
      | ret v => exact wpC_pure h₃
/-- the facts with which a loop at wpC is entered -/
def LoopC (prog : Program) (w : World) (A : Around) (h₀ : Heap) (env : Env) (x : Str) (body : List Stmt) (Q : Flow → Shared → Prop) (E : Value → Shared → Prop) (it : Value) (s₂ : Shared) : Prop :=
  ∃ (I : Addr) (fp wr : List Addr) (n : Nat) (P : Nat → Value → Prop) (St : Nat → Heap → Prop) (m : Str → Option Value) (news : List (Addr × Obj)) (J : Nat → (Str → Option Value) → List (Addr × Obj) → Prop),
    it = .ref I ∧ Walks prog w A I fp wr n P St ∧ env.locals ∉ fp ∧ (∀ b ∈ wr, h₀.get? b = none) ∧ (∀ p ∈ news, p.1 ∉ wr) ∧ St 0 s₂.heap ∧ Fr h₀ env.locals s₂.heap m ∧ News h₀ env.locals s₂.heap news ∧ J 0 m news ∧
    (∀ i v m₁ news₁ s₁ own, (∃ h tk, s₁ = { s₂ with heap := h, toks := tk }) → i < n → P i v → J i m₁ news₁ → (∀ p ∈ news₁, p.1 ∉ wr) → (∀ p ∈ own, p.1 ∈ fp) → (∀ p ∈ own, s₁.heap.get? p.1 = some p.2) → (∀ b ∈ fp, h₀.get? b = none → ∀ o, s₁.heap.get? b = some o → (b, o) ∈ own) → St (i + 1) s₁.heap →
      Fr h₀ env.locals s₁.heap (fun y => if y = x then some v else m₁ y) → News h₀ env.locals s₁.heap (own ++ news₁) →
      wpC (model prog w) A (execs body env) (LoopStepV h₀ env.locals wr own (J (i + 1)) s₁ (fun v s' => Q (.ret v) s') fun s' => Q .next s') E s₁) ∧
    ∀ h' tk m' news', Fr h₀ env.locals h' m' → News h₀ env.locals h' news' → (∀ p ∈ news', p.1 ∉ wr) → J n m' news' → Q .next { s₂ with heap := h', toks := tk }
theorem codeC_forLoop_in {Q : Flow → Shared → Prop} {x : Str} {px : Pos} {body : List Stmt} {it : Value} (h : LoopC prog w A h₀ env x body Q E it s) (hx : env.kindOf x = some .local)
    (hp : (env.scope.kind == .class || (env.scope.kind == .module && env.locals != env.globals)) = false) (hE : PassesOwn (model prog w) A env E) :
    codeC (model prog w) A (.forLoop (.Name x px) it body [] env) (fun r s' => match r with | .ok f => Q f s' | .error e => cameBackBy (model prog w) A env E e s') s := by
  obtain ⟨I, fp, wr, n, P, St, m, news, J, rfl, W, hLf, hwr, hnw, hst, F, N, h0, step, hR⟩ := h
  have hLw : env.locals ∉ wr := fun h => hLf (W.sub _ h)
  refine codeC_forLoop
    (fun k s' => ∃ h' tk m' news' i, s' = { s with heap := h', toks := tk } ∧ St i h' ∧ Fr h₀ env.locals h' m' ∧ News h₀ env.locals h' news' ∧ (∀ p ∈ news', p.1 ∉ wr) ∧ J i m' news' ∧ i ≤ n ∧ k = n + 1 - i) ?_ (n + 1)
    ⟨s.heap, s.toks, m, news, 0, rfl, hst, F, N, hnw, h0, Nat.zero_le _, rfl⟩ (fun _ => rfl)
  rintro k s' ⟨h', tk, m', news', i, rfl, hst', F', N', hnw', hJ, hi, rfl⟩
  have next : ∀ h₁ : Heap, (∀ b o, b ∉ wr → h'.get? b = some o → h₁.get? b = some o) → Fr h₀ env.locals h₁ m' ∧ News h₀ env.locals h₁ news' := fun h₁ hk₁ =>
    ⟨⟨F'.ns.at' fun o e => hk₁ _ o hLw e, fun b o e => hk₁ b o (fun hb => by rw [hwr b hb] at e; cases e) (F'.keep b o e), F'.above⟩, fun p hp => ⟨hk₁ _ _ (hnw' p hp) (N' p hp).1, (N' p hp).2⟩⟩
  by_cases hlt : i < n
  · refine W.item i _ _ _ hlt hst' fun v h₁ tk₁ hP hst₁ hk₁ => ?_
    obtain ⟨F₁, N₁⟩ := next h₁ hk₁
    refine wpAny_assign_Name (wpAny_storeName_local hx F₁.ns (fun h₂ hn₂ hs₂ => ?_) hp)
    have F₂ := F₁.set hn₂ hs₂
    have Nown : News h₀ env.locals h₂ (ownOf h₀ fp h₂) := news_ownOf hLf
    have hst₂ : St (i + 1) h₂ := W.frame _ _ _ hst₁ fun b hb o e => (hs₂.2 b fun q => hLf (q ▸ hb)).trans e
    have back : ∀ s₃, LoopStepU h₀ env.locals wr (ownOf h₀ fp h₂) (J (i + 1)) { s with heap := h₂, toks := tk₁ } .next s₃ → ∃ mm, mm < n + 1 - i ∧ ∃ h' tk m' news' i, s₃ = { s with heap := h', toks := tk } ∧ St i h' ∧ Fr h₀ env.locals h' m' ∧ News h₀ env.locals h' news' ∧ (∀ p ∈ news', p.1 ∉ wr) ∧ J i m' news' ∧ i ≤ n ∧ mm = n + 1 - i := by
      rintro s₃ ⟨_, h₃', tk₃, m₂, news₂, rfl, F₃, N₃, ha₃, hJ₃⟩
      refine ⟨n + 1 - (i + 1), by omega, h₃', tk₃, m₂, news₂, i + 1, rfl, W.frame _ _ _ hst₁ fun b hb o e => ?_, F₃, N₃.right, ha₃, hJ₃, hlt, rfl⟩
      have e₂ : h₂.get? b = some o := (hs₂.2 b fun q => hLf (q ▸ hb)).trans e
      cases hn : h₀.get? b with
      | some o₀ =>
        have : o₀ = o := by have := F₂.keep b o₀ hn; rw [e₂] at this; exact (Option.some.inj this).symm
        exact this ▸ F₃.keep b o₀ hn
      | none => exact (N₃ _ (List.mem_append_left _ (mem_ownOf hb hn e₂))).1
    refine wpC_mono (step i v m' news' _ (ownOf h₀ fp h₂) ⟨_, _, rfl⟩ hlt hP hJ hnw' ownOf_sub (fun p hp => (Nown p hp).1) (fun b hb hn o e => mem_ownOf hb hn e) hst₂ F₂ (Nown.append (N₁.set hs₂))) (fun f s₃ h₃ => ?_) hE
    cases f with
    | ret v => exact h₃
    | brk => exact h₃
    | cont => exact back _ h₃
    | next => exact back _ h₃
  · have hin : i = n := by omega
    subst hin
    refine W.done _ _ _ hst' fun h₁ tk₁ hk₁ => wpAny_execs_nil ?_
    obtain ⟨F₁, N₁⟩ := next h₁ hk₁
    exact hR h₁ tk₁ m' news' F₁ N₁ hnw' hJ
theorem wpC_For {x : Str} {px pos : Pos} {iter : Expr} {body : List Stmt} {Q : Flow → Shared → Prop}
    (h : wpAny (model prog w) A (eval iter env) (fun xv s₁ => wpAny (model prog w) A (pyIter xv) (fun it s₂ => LoopC prog w A h₀ env x body Q E it s₂) E s₁) E s) (hx : env.kindOf x = some .local)
    (hp : (env.scope.kind == .class || (env.scope.kind == .module && env.locals != env.globals)) = false)
    (hs : ∀ x, foldedSetIterable iter env x = pure x) (hE : PassesOwn (model prog w) A env E) :
    wpC (model prog w) A (exec (.For (.Name x px) iter body [] pos) env) Q E s := by
  rw [exec_For]
  refine wpC_bind (wpC_of (wpAny_standAt ?_))
  refine wpC_bind (wpC_mono (wpC_of h) (fun xv s₁ h₁ => ?_) fun _ _ e => e)
  refine wpC_bind (wpC_of (wpAny_of_eq (hs xv) ?_))
  refine wpC_bind (wpC_of (wpAny_standAt ?_))
  refine wpC_bind (wpC_holding (wpC_mono (wpC_of h₁) (fun it s₂ h₂ => ?_) fun _ _ e => e))
  exact wpC_runOwn (codeC_forLoop_in h₂ hx hp hE)
end
end Mine
end

section
open PySem PySem.W PySem.Spec PySem.Calls PySem.NumText PyProof.Rows
set_option Elab.async false
set_option maxRecDepth 100000
set_option maxHeartbeats 8000000
namespace Mine
section
variable {prog : Program} {w : World} {A₀ A : Around} {s : Shared} {base h₀ : Heap} {outer : List Env} {L : Addr} {m : Str → Option Value} {env : Env} {news : List (Addr × Obj)} {K : Frag} {p : Program} {loose : List Str} {mean : ExcName → Option Value} {mg mb : Str → Option Value}
  {R : Result → Shared → Prop} {name qual : Str} {params : Arguments} {body : List Stmt} {scope : Scope} {dV kV doc pm cdv ct oc : Value} {an od : Option Addr} {osl : Array (Option Value)} {f : Addr} {args : Args} {binds : List (Str × Value)}
/-- a def of the written part is called, from any frame: its body at wpC -/
theorem codeC_def (B : Below A₀ base outer h₀) (F : Fr h₀ L s.heap m) (X₀ : K.In h₀) (N : News h₀ L s.heap news) (T : Top p loose mean mg mb h₀) (hA : A.frames = some (env :: outer)) (hf : env.frame = some L) (hke : env.scope.kind = .function)
    (ho : K.lookup f = some ⟨oc, od, .func (fnOf name qual params body scope dV kV doc pm an cdv ct), osl⟩) (hcd : codeIn K cdv qual = true) (hroom : A.depth < recursionLimit)
    (hbind : BindsTo s (fnOf name qual params body scope dV kV doc pm an cdv ct) args binds) (hloc : ∀ y ∈ binds, scope.names.lookup y.1 = some .local)
    (h : ∀ g L' h₁, Fr h₀ L g m → Fr g L' h₁ (fun y => binds.reverse.lookup y) → News g L' h₁ news → Below A base (env :: outer) g → K.In g → Top p loose mean mg mb g →
      wpC (model prog w) (A.deeper (envX qual scope L' f cdv [])) (execs body (envX qual scope L' f cdv []))
        (fun fl s' => LeaveK h₀ L m g R (match fl with | .ret v => v | _ => .none) s')
        (fun e s' => wpAny (model prog w) (A.deeper (envX qual scope L' f cdv [])) (leaving (envX qual scope L' f cdv []) e) (fun _ s'' => R (.error e) s'') (fun e' s'' => R (.error e') s'') s')
        { s with heap := h₁, toks := s.toks + binds.length })
    (hco : scope.isCoroutine = false) (hgen : scope.isGenerator = false) (hk : scope.kind = .function)
    (hcell : ∀ x ∈ scope.names, x.2 ≠ .cell) : codeC (model prog w) A (.call (.ref f) args) R s := by
  have X := X₀.keeps F.keep
  obtain ⟨FG, BG, st, lv⟩ := groundX (R := R) B F N hA hf hke
  refine codeC_call_def (fd := fnOf name qual params body scope dV kV doc pm an cdv ct) (body := body) (binds := binds) hroom (X _ _ ho) rfl (T.nolimit.keeps F.keep) (codeRec_of X hcd) rfl hbind hcell hloc (fun h₁ hns hk₁ => ?_) hco hgen hk
  exact wpC_mono (h _ s.heap.objs.size h₁ FG ⟨hns, fun b o e => hk₁ b o (of_hideAll _ e), Nat.le_of_eq (hideAll_size _ _)⟩
    (fun p hp => ⟨hk₁ _ _ (N p hp).1, Nat.ne_of_lt (Heap.lt_size (N p hp).1), hideAll_none _ (List.mem_map_of_mem hp)⟩) BG (X₀.keeps st) (T.keeps st)) (fun fl s' hl => lv _ _ hl) fun _ _ y => y
/-- the same, called from the frame at the bottom; the callee may catch what was raised below it -/
theorem codeC_defS (B : Below A₀ base [] h₀) (F : Fr h₀ L s.heap m) (X₀ : K.In h₀) (N : News h₀ L s.heap news) (T : Top p loose mean mg mb h₀) (hA : A.frames = some [env]) (hf : env.frame = some L) (hke : env.scope.kind = .function)
    (ho : K.lookup f = some ⟨oc, od, .func (fnOf name qual params body scope dV kV doc pm an cdv ct), osl⟩) (hcd : codeIn K cdv qual = true) (hroom : A.depth < recursionLimit)
    (hbind : BindsTo s (fnOf name qual params body scope dV kV doc pm an cdv ct) args binds) (hloc : ∀ y ∈ binds, scope.names.lookup y.1 = some .local)
    (h : ∀ g L' h₁, Fr h₀ L g m → Fr g L' h₁ (fun y => binds.reverse.lookup y) → News g L' h₁ news → Below A base [env] g → K.In g → Top p loose mean mg mb g → KtsDicts [L] g →
      wpC (model prog w) (A.deeper (envX qual scope L' f cdv [])) (execs body (envX qual scope L' f cdv []))
        (fun fl s' => LeaveS0 [L] h₀ L m g R (match fl with | .ret v => v | _ => .none) s')
        (fun e s' => wpAny (model prog w) (A.deeper (envX qual scope L' f cdv [])) (leaving (envX qual scope L' f cdv []) e) (fun _ s'' => R (.error e) s'') (fun e' s'' => R (.error e') s'') s')
        { s with heap := h₁, toks := s.toks + binds.length })
    (hco : scope.isCoroutine = false) (hgen : scope.isGenerator = false) (hk : scope.kind = .function)
    (hcell : ∀ x ∈ scope.names, x.2 ≠ .cell) : codeC (model prog w) A (.call (.ref f) args) R s := by
  have X := X₀.keeps F.keep
  obtain ⟨FG, BG, st, _⟩ := groundX (R := R) B F N hA hf hke
  obtain ⟨oL, es, ep, hLg, hLd, hLk, hLf⟩ := FG.ns
  have nL₀ : h₀.get? L = none := kts_self F
  refine codeC_call_def (fd := fnOf name qual params body scope dV kV doc pm an cdv ct) (body := body) (binds := binds) hroom (X _ _ ho) rfl (T.nolimit.keeps F.keep) (codeRec_of X hcd) rfl hbind hcell hloc (fun h₁ hns hk₁ => ?_) hco hgen hk
  refine wpC_mono (h _ s.heap.objs.size h₁ FG ⟨hns, fun b o e => hk₁ b o (of_hideAll _ e), Nat.le_of_eq (hideAll_size _ _)⟩
    (fun p hp => ⟨hk₁ _ _ (N p hp).1, Nat.ne_of_lt (Heap.lt_size (N p hp).1), hideAll_none _ (List.mem_map_of_mem hp)⟩) BG (X₀.keeps st) (T.keeps st) (fun b hb => by
      rw [List.mem_singleton.mp hb]
      exact ⟨oL, es, ep, hLg, hLd⟩)) (fun fl s' hl => ?_) fun _ _ y => y
  obtain ⟨g', L', m', news', T', F', N', k⟩ := hl
  obtain ⟨sl, hs⟩ := T'.up hLg
  have ne : ∀ {b : Addr} {o : Obj}, h₀.get? b = some o → b ∉ [L] := fun e q => by
    rw [List.mem_singleton.mp q, nL₀] at e
    cases e
  refine k ⟨⟨_, es, ep, F'.keep _ _ hs, hLd, hLk, hLf⟩, fun b o e => F'.keep b o (T'.other b o (st b o e) (ne e)), F.above⟩ fun p hp => ⟨(N' p hp).1, fun q => ?_, ?_⟩
  · have := (N' p hp).2.2; rw [q, hs] at this; cases this
  · cases q : h₀.get? p.1 with
    | none => rfl
    | some o =>
      obtain ⟨sl', hs'⟩ := T'.up (st _ _ q)
      have := (N' p hp).2.2
      rw [hs'] at this
      cases this
end
/-- what int() is asked to read, and refuses -/
theorem refused_x : (int_private% "readNumeral") 0 10 (numSeenOf ⟨#[120]⟩) = (int_private% "Numeral.invalid") := by first | rfl | kernel_rfl
theorem refused_23 : (int_private% "readNumeral") 0 10 (numSeenOf ⟨#[50, 42, 51]⟩) = (int_private% "Numeral.invalid") := by first | rfl | kernel_rfl
end Mine
end

section
open PySem PySem.W PySem.Spec PySem.Calls PyProof.Rows
set_option Elab.async false
set_option maxRecDepth 100000
set_option maxHeartbeats 8000000
namespace Mine
/-- the claim's caller stands in the stack -/
def callerSeen (st : List (Code × Pos)) : Bool := st.any fun c => c.1.isCaller
/-- a tree that runs only where the claim's caller stands in the stack -/
def guardT (t : Sem Fin) : Sem Fin := do
  let st ← stack
  if callerSeen st then t else ret (.bool true)
def guardV (t : Sem Value) : Sem Value := do
  let st ← stack
  if callerSeen st then t else pure (.bool true)
theorem wp_guardT {M : Model} {G : PySem.Ctx} {t : Sem Fin} {Q : Fin → Pos → Shared → Prop} {E : Value → Pos → Shared → Prop} {p : Pos} {s : Shared} :
    Sem.wp M G (guardT t) Q E p s ↔ if callerSeen ((G.code, p) :: G.below) then Sem.wp M G t Q E p s else Q (.done (.ret (.bool true))) p s := by
  show Sem.wp M G (if callerSeen ((G.code, p) :: G.below) then t else ret (.bool true)) Q E p s ↔ _
  split <;> exact Iff.rfl
theorem wp_guardV {M : Model} {G : PySem.Ctx} {t : Sem Value} {Q : Value → Pos → Shared → Prop} {E : Value → Pos → Shared → Prop} {p : Pos} {s : Shared} :
    Sem.wp M G (guardV t) Q E p s ↔ if callerSeen ((G.code, p) :: G.below) then Sem.wp M G t Q E p s else Q (.bool true) p s := by
  show Sem.wp M G (if callerSeen ((G.code, p) :: G.below) then t else pure (.bool true)) Q E p s ↔ _
  split <;> exact Iff.rfl
theorem guard_step {p : Program} {w : World} {s : Shared} {t : Sem Fin} {n : Nat} {o : Outcome} {s' : Shared} (hz : s.asleep)
    (h : schedN (denote table) p w n (.single s ⟨guardT t, .builtin "claim.caller" {}, default, []⟩) = .halted o s') : ∃ m, schedN (denote table) p w m (.single s ⟨t, .builtin "claim.caller" {}, default, []⟩) = .halted o s' := by
  cases n with
  | zero => cases h
  | succ m =>
    have hs : step (denote table) p w s ⟨guardT t, .builtin "claim.caller" {}, default, []⟩ = .go s ⟨t, .builtin "claim.caller" {}, default, []⟩ := rfl
    have e : sstep (denote table) p w (.single s ⟨guardT t, .builtin "claim.caller" {}, default, []⟩) = .go (.single s ⟨t, .builtin "claim.caller" {}, default, []⟩) := by
      rcases sstep_single (denote table) p w s ⟨guardT t, .builtin "claim.caller" {}, default, []⟩ (by rfl) hz with e | e
      · rw [e, hs]; rfl
      · rw [hs] at e; cases e
    refine ⟨m, ?_⟩
    simp only [schedN, e] at h
    exact h
theorem unguard {c : ClaimW} {tree : List Value → Sem Fin} {defs keeps : List Str} {writes : Bool} (H : c.HoldsOpenBy (fun vs => ⟨guardT (tree vs), .builtin "claim.caller" {}, default, []⟩) defs keeps writes) :
    c.HoldsOpenBy (fun vs => ⟨tree vs, .builtin "claim.caller" {}, default, []⟩) defs keeps writes := by
  refine ⟨H.1, H.2.1, fun w => ⟨(H.2.2 w).1, fun s hs => ?_⟩⟩
  obtain ⟨s₀, hf, hg, s₁, T, h1, h2, h3, C⟩ := (H.2.2 w).2 s hs
  have A : AfterImport (opening c.prog) w s := hs
  have z : s₁.asleep := Shared.asleep_of_life (T.2.1.trans (fence_lifeW hf)) A.life
  refine ⟨s₀, hf, hg, s₁, T, h1, h2, h3, fun args hp hl ord ho => ?_⟩
  obtain ⟨vs, s₂, hlaid, n, o, s', hrun, rest⟩ := C args hp hl ord ho
  have hal := layAllW_rest _ _ _ hlaid
  obtain ⟨m, hm⟩ := guard_step (Shared.asleep_of_life hal.2.2.2 z) hrun
  exact ⟨vs, s₂, hlaid, m, o, s', hm, rest⟩
abbrev WalkC (q : Program) (loose : List Str) (XP : (Str → Option Value) → Heap → Prop) (YP : World → Heap → Prop) (r : RowW) (d : DefRec) (kwd : List (Str × Expr)) : Prop :=
  ∀ (w : World) (s₀ s₁ : Shared) (mg mb : Str → Option Value), Ground q loose r.records XP w s₀ mg mb s₁.heap → YP w s₁.heap → ∀ (a : Addr) (o : Obj) (pm cd doc dV kV : Value), s₁.heap.get? a = some o →
    o.data = .func { docDef d.name d.params d.body d.scope pm cd doc with defaults := dV, kwdefaults := kV } → s₁.heap.CodeRec cd d.name → Dflts mg s₁.heap d.params kwd dV kV → mg d.name = some (.ref a) → s₁.gens = #[] →
    ∀ (args : List WData) (vals : List Value) (as : List Addr), r.claim.pre args = true → WData.layableAll args = true → ReadsAllW r.records (classAt s₀.heap) s₁.heap vals args as → WellAll w.params s₁.heap vals args → (∀ a ∈ as, (a == sysModules) = false) →
      GoodWG r.claim (classAt s₀.heap) (ExcName.means s₀.heap) args s₁ (.ok (.ret (.bool true))) s₁ ∧
      codeC (model r.prog w) callerA (.call (.ref a) ⟨vals, []⟩) (GoodWG r.claim (classAt s₀.heap) (ExcName.means s₀.heap) args s₁) s₁
namespace PySem.W
theorem holds_open {r : OpenRow} {q : Program} {loose : List Str} {Xt : Shared → Bool} {XP : (Str → Option Value) → Heap → Prop} {α : Type} {Yf : Shared → α} {Ya : World → α} {YP : World → Heap → Prop} {d : DefRec} {kwd : List (Str × Expr)} {N : Nat}
    (left : LeftO r.prog q loose Xt Yf Ya N) (hY : ∀ w s, Yf s = Ya w → YP w s.heap) (hYk : ∀ w h h', YP w h → (∀ b o, h.get? b = some o → h'.get? b = some o) → YP w h')
    (hX : ∀ s, Xt s = true → XP (s.heap.nsMap mainGlobals) s.heap) (hXk : ∀ mg h h', XP mg h → (∀ b o, h.get? b = some o → h'.get? b = some o) → XP mg h')
    (hdef : defOf q r.name = some (d, kwd)) (hp : r.prog.theDef r.name = some (d.params, d.body, d.scope)) (hk : kwWritten? d.params.kwonlyargs d.params.kw_defaults = some kwd) (hRf : ∀ s, Xt s = true → RecFacts r.records s.heap) (hwr : (!r.writes || r.records.isEmpty) = true)
    (k1 : r.wellSaid = true) (ok : (chainsOk q && opensWell r.prog && (frees r.toRowW && r.within.isEmpty)) = true) (hb : r.prog.bare) (hw : r.toRowW.promised)
    (call : WalkC q loose XP YP r.toRowW d kwd) : r.Holds := by
  refine ⟨k1, hw, unguard (open_anyG (r := r.toRowW) (run := fun f vs => guardV (_root_.PySem.call f vs)) (tree := fun vs => guardT (do match ← nsGet mainNs r.name with
      | some f => do ret (← _root_.PySem.call f vs)
      | none => unsupported "claim.caller:no-such-global")) left hY hYk hX hXk hRf hwr ok hb hw
    (fun vs w s mg f Q E hg hf h => ?_)
    (fun w s hg G n hn => ?_) fun w s₀ s₁ mg mb G Y args vs as hpre hlay L low => ?_)⟩
  · intro C p hC
    rw [wp_guardT]
    split
    · rename_i hs
      rw [Sem.wp_bind']
      refine Sem.wp_mono _ C _ (fun x p' s' hx => ?_) (fun _ _ _ x => x.elim) p s ((wpAny_nsGet hg (Q := fun x s' => x = some f ∧ s' = s) (E := fun _ _ => False) (M := model r.prog w) (A := callerA) ⟨hf, rfl⟩) C p hC)
      obtain ⟨rfl, rfl⟩ := hx
      have h' := h C p' hC
      rw [wp_guardV] at h'
      have hs' : callerSeen ((C.code, p') :: C.below) = true := hs
      rw [if_pos hs'] at h'
      show Sem.wp _ C (do ret (← _root_.PySem.call f vs)) _ _ p' _
      rw [Sem.wp_bind']
      exact Sem.wp_mono _ C _ (fun _ _ _ x => x) (fun _ _ _ x => x) _ _ h'
    · rename_i hs
      have h' := h C p hC
      rw [wp_guardV, if_neg hs] at h'
      exact h'
  · obtain rfl : n = r.name := by split at hn <;> simp_all
    exact pinned_of_view hg G hdef hp hk
  · obtain ⟨a, o, pm, cd, doc, dV, kV, h1, h2, h3, h4, h5⟩ := G.fn hdef
    obtain ⟨g1, g2⟩ := call w s₀ s₁ mg mb G Y a o pm cd doc dV kV h2 h3 h4 h5 (defOf_name hdef ▸ h1) L.gens args vs as hpre hlay L.reads L.well (L.low low)
    refine ⟨.ref a, h1, fun C p hC => ?_⟩
    rw [wp_guardV]
    split
    · rename_i hs
      show Sem.wp _ C (runValue (.call (.ref a) ⟨vs, []⟩)) _ _ p s₁
      rw [Sem.wp_runValue]
      obtain ⟨res, s', e1, g⟩ := g2 _ p rfl (hC.enter _ none p (by intro x; cases x)) hs
      refine ⟨res, s', e1, ?_⟩
      rcases g.1 with ⟨v, _, _, rfl, _⟩ | ⟨e, _, _, rfl, _⟩ <;> exact g
    · exact g1
end PySem.W
end Mine
end

section
open PySem PySem.W PySem.Spec PySem.Calls PyProof.Rows
set_option Elab.async false
set_option maxRecDepth 100000
set_option maxHeartbeats 8000000
namespace Mine
open_top hd for PySem.Challenge.rw_fc0017_01
end Mine
end

section
open PySem PySem.W PySem.Spec PySem.Calls PyProof.Rows
set_option Elab.async false
set_option maxRecDepth 100000
set_option maxHeartbeats 8000000
noncomputable section
namespace Mine
noncomputable abbrev prg : Program := PySem.Challenge.rw_fc0017_01.row.prog
noncomputable abbrev LS : List Str := looseW hd.view_39 [Str.ofString "MULTIPLICATIVE_RE", Str.ofString "STRUCT_PACK_RE", Str.ofString "STRUCT_SPLIT_RE",
      Str.ofString "REPLACEMENTS_BE", Str.ofString "REPLACEMENTS_LE", Str.ofString "BRACKET_RE"]
abbrev Led := List (Addr × Obj)
theorem map_at {m : Str → Option Value} {x : Str} {v : Value} (h : m x = some v) : m = fun z => if z = x then some v else m z := by
  funext z; by_cases e : z = x
  · rw [if_pos e, e, h]
  · rw [if_neg e]
end Mine
end
end

section
/-! The plain law: texts as lists of signs, no program in sight. -/
set_option linter.unusedVariables false
namespace Mine

/-- what a script builds: a token with its count, or a bracket with its count -/
inductive It where
  | tok (c : Option Nat) (w : List Nat)
  | br (c : Option Nat) (xs : List It)

def headC : Option Nat → List Nat
  | none => []
  | some c => [48 + c, 42]

def joinC : List (List Nat) → List Nat
  | [] => []
  | [x] => x
  | x :: y :: r => x ++ 44 :: joinC (y :: r)

mutual
def wr : It → List Nat
  | .tok c w => headC c ++ w
  | .br c xs => headC c ++ 40 :: (joinC (wrs xs) ++ [41])
def wrs : List It → List (List Nat)
  | [] => []
  | x :: r => wr x :: wrs r
end
mutual
def fl : It → List Nat
  | .tok c w => headC c ++ w
  | .br none xs => joinC (fls xs)
  | .br (some c) xs => joinC (List.replicate c (joinC (fls xs)))
def fls : List It → List (List Nat)
  | [] => []
  | x :: r => fl x :: fls r
end
mutual
def told : It → List (List Nat)
  | .tok none w => [w]
  | .tok (some c) w => List.replicate c w
  | .br none xs => tolds xs
  | .br (some c) xs => (List.replicate c (tolds xs)).flatten
def tolds : List It → List (List Nat)
  | [] => []
  | x :: r => told x ++ tolds r
end

def words : List (List Nat) :=
  [[117, 56], [104, 101, 120, 52, 61, 102], [105, 55], [48, 120, 102, 102], [98, 105, 116, 115], [117, 101],
   [98, 105, 110, 61, 48, 49], [115, 101, 61, 53]]

mutual
def Ok : Nat → It → Prop
  | _, .tok c w => (∀ k, c = some k → k ≤ 3) ∧ w ∈ words
  | d, .br c xs => (∀ k, c = some k → k ≤ 2) ∧ xs ≠ [] ∧ xs.length ≤ 3 ∧ 0 < d ∧ Oks (d - 1) xs
def Oks : Nat → List It → Prop
  | _, [] => True
  | d, x :: r => Ok d x ∧ Oks d r
end

-- how long a text can be while it is being written out
mutual
def cost : It → Nat
  | .tok c w => (headC c ++ w).length
  | .br none xs => costs xs + 2
  | .br (some c) xs => (c + 1) * (costs xs + 1) + 4
def costs : List It → Nat
  | [] => 0
  | x :: r => cost x + 1 + costs r
end

theorem wrs_eq (xs : List It) : wrs xs = xs.map wr := by
  induction xs with
  | nil => rfl
  | cons x r ih => simp [wrs, ih]
theorem fls_eq (xs : List It) : fls xs = xs.map fl := by
  induction xs with
  | nil => rfl
  | cons x r ih => simp [fls, ih]
theorem tolds_eq (xs : List It) : tolds xs = xs.flatMap told := by
  induction xs with
  | nil => rfl
  | cons x r ih => simp [tolds, ih]
theorem Oks_iff {d : Nat} (xs : List It) : Oks d xs ↔ ∀ x ∈ xs, Ok d x := by
  induction xs with
  | nil => simp [Oks]
  | cons x r ih => simp [Oks, ih]

theorem joinC_cons {x : List Nat} {r : List (List Nat)} (h : r ≠ []) : joinC (x :: r) = x ++ 44 :: joinC r := by
  cases r with
  | nil => exact absurd rfl h
  | cons y r => rfl
theorem mem_joinC {c : Nat} : ∀ {xs : List (List Nat)}, c ∈ joinC xs → c = 44 ∨ ∃ x ∈ xs, c ∈ x
  | [], h => by simp [joinC] at h
  | [x], h => .inr ⟨x, by simp, h⟩
  | x :: y :: r, h => by
    simp only [joinC, List.mem_append, List.mem_cons] at h
    rcases h with h | h | h
    · exact .inr ⟨x, by simp, h⟩
    · exact .inl h
    · rcases mem_joinC h with h | ⟨z, hz, h⟩
      · exact .inl h
      · exact .inr ⟨z, List.mem_cons_of_mem _ hz, h⟩
theorem length_joinC_le : ∀ xs : List (List Nat), (joinC xs).length ≤ (xs.map (fun x => x.length + 1)).sum
  | [] => by simp [joinC]
  | [x] => by simp [joinC]
  | x :: y :: r => by
    have := length_joinC_le (y :: r)
    simp only [joinC, List.length_append, List.length_cons, List.map_cons, List.sum_cons] at this ⊢
    omega

/-- the brackets' count along a text, from n; none: it has come to nought -/
def run : Nat → List Nat → Option Nat
  | n, [] => some n
  | n, x :: l => if x = 40 then run (n + 1) l else if x = 41 then (if n ≤ 1 then none else run (n - 1) l) else run n l

theorem run_append (n : Nat) (a b : List Nat) : run n (a ++ b) = (run n a).bind fun k => run k b := by
  induction a generalizing n with
  | nil => rfl
  | cons x l ih =>
    simp only [List.cons_append, run]
    split
    · exact ih _
    · split
      · split
        · rfl
        · exact ih _
      · exact ih _
theorem run_plain {n : Nat} {a : List Nat} (h : ∀ c ∈ a, c ≠ 40 ∧ c ≠ 41) : run n a = some n := by
  induction a with
  | nil => rfl
  | cons x l ih =>
    have hx := h x (by simp)
    simp only [run, if_neg hx.1, if_neg hx.2]
    exact ih fun c hc => h c (List.mem_cons_of_mem _ hc)
theorem run_succ {n k : Nat} {a : List Nat} (h : run n a = some k) : run (n + 1) a = some (k + 1) := by
  induction a generalizing n with
  | nil => simp only [run, Option.some.injEq] at h ⊢; omega
  | cons x l ih =>
    simp only [run] at h ⊢
    split
    · rename_i e; rw [if_pos e] at h; exact ih h
    · rename_i e
      rw [if_neg e] at h
      split
      · rename_i e'
        rw [if_pos e'] at h
        split at h
        · cases h
        · rename_i hn
          rw [if_neg (by omega)]
          have := ih h
          rwa [show n - 1 + 1 = n + 1 - 1 by omega] at this
      · rename_i e'
        rw [if_neg e'] at h
        exact ih h
theorem run_pos {n k : Nat} {a : List Nat} (hn : 1 ≤ n) (h : run n a = some k) : 1 ≤ k := by
  induction a generalizing n with
  | nil => simp only [run, Option.some.injEq] at h; omega
  | cons x l ih =>
    simp only [run] at h
    split at h
    · exact ih (by omega) h
    · split at h
      · split at h
        · cases h
        · exact ih (by omega) h
      · exact ih hn h

theorem word_plain {w : List Nat} (h : w ∈ words) : ∀ c ∈ w, c ≠ 40 ∧ c ≠ 41 ∧ c ≠ 42 ∧ c ≠ 44 := by
  revert w; decide
theorem word_ne {w : List Nat} (h : w ∈ words) : w ≠ [] := by
  revert w; decide
theorem head_plain {o : Option Nat} (h : ∀ k, o = some k → k ≤ 3) : ∀ c ∈ headC o, c ≠ 40 ∧ c ≠ 41 ∧ c ≠ 44 := by
  cases o with
  | none => intro c hc; simp [headC] at hc
  | some k =>
    have := h k rfl
    intro c hc
    simp only [headC, List.mem_cons, List.not_mem_nil, or_false] at hc
    omega

mutual
theorem run_wr : ∀ (x : It) (d n : Nat), Ok d x → 1 ≤ n → run n (wr x) = some n
  | .tok c w, d, n, h, hn => by
    simp only [Ok] at h
    rw [wr]
    refine run_plain fun k hk => ?_
    rcases List.mem_append.mp hk with hk | hk
    · have := head_plain h.1 k hk; exact ⟨this.1, this.2.1⟩
    · have := word_plain h.2 k hk; exact ⟨this.1, this.2.1⟩
  | .br c xs, d, n, h, hn => by
    simp only [Ok] at h
    obtain ⟨hc, hx, hl, hd, ho⟩ := h
    rw [wr, run_append, run_plain (fun k hk => by have := head_plain (fun k hk => Nat.le_succ_of_le (hc k hk)) k hk; exact ⟨this.1, this.2.1⟩)]
    simp only [Option.bind_some, run, if_true]
    rw [run_append, run_wrs xs (d - 1) (n + 1) ho (by omega)]
    simp [run]
    omega
theorem run_wrs : ∀ (xs : List It) (d n : Nat), Oks d xs → 1 ≤ n → run n (joinC (wrs xs)) = some n
  | [], d, n, h, hn => by simp [wrs, joinC, run]
  | [x], d, n, h, hn => by
    simp only [Oks] at h
    simp only [wrs, joinC]
    exact run_wr x d n h.1 hn
  | x :: y :: r, d, n, h, hn => by
    simp only [Oks] at h
    have ih := run_wrs (y :: r) d n ⟨h.2.1, h.2.2⟩ hn
    have h1 := run_wr x d n h.1 hn
    simp only [wrs] at ih ⊢
    rw [joinC_cons (by simp), run_append, h1]
    simpa [run] using ih
end

mutual
theorem fl_plain : ∀ (x : It) (d : Nat), Ok d x → ∀ c ∈ fl x, c ≠ 40
  | .tok o w, d, h, c, hc => by
    simp only [Ok] at h
    rw [fl] at hc
    rcases List.mem_append.mp hc with hc | hc
    · exact (head_plain h.1 c hc).1
    · exact (word_plain h.2 c hc).1
  | .br none xs, d, h, c, hc => by
    simp only [Ok] at h
    rw [fl] at hc
    exact fls_plain xs (d - 1) h.2.2.2.2 c hc
  | .br (some k) xs, d, h, c, hc => by
    simp only [Ok] at h
    rw [fl] at hc
    rcases mem_joinC hc with e | ⟨z, hz, hc⟩
    · omega
    · rw [(List.mem_replicate.mp hz).2] at hc
      exact fls_plain xs (d - 1) h.2.2.2.2 c hc
theorem fls_plain : ∀ (xs : List It) (d : Nat), Oks d xs → ∀ c ∈ joinC (fls xs), c ≠ 40
  | [], d, h, c, hc => by simp [fls, joinC] at hc
  | [x], d, h, c, hc => by
    simp only [Oks] at h
    simp only [fls, joinC] at hc
    exact fl_plain x d h.1 c hc
  | x :: y :: r, d, h, c, hc => by
    simp only [Oks] at h
    have ih := fls_plain (y :: r) d ⟨h.2.1, h.2.2⟩
    simp only [fls] at ih hc
    rw [joinC_cons (by simp)] at hc
    rcases List.mem_append.mp hc with hc | hc
    · exact fl_plain x d h.1 c hc
    · rcases List.mem_cons.mp hc with e | hc
      · omega
      · exact ih c hc
end

theorem length_replicate_join (c : Nat) (J : List Nat) : (joinC (List.replicate c J)).length ≤ c * (J.length + 1) := by
  refine Nat.le_trans (length_joinC_le _) ?_
  simp
mutual
theorem wr_le : ∀ x : It, (wr x).length ≤ cost x
  | .tok c w => by rw [wr, cost]; exact Nat.le_refl _
  | .br none xs => by
    have := wrs_le xs
    simp only [wr, cost, headC, List.nil_append, List.length_cons, List.length_append, List.length_nil]; omega
  | .br (some c) xs => by
    have := wrs_le xs
    simp only [wr, cost, headC, List.cons_append, List.nil_append, List.length_cons, List.length_append, List.length_nil]
    have h1 : costs xs + 1 ≤ (c + 1) * (costs xs + 1) := Nat.le_mul_of_pos_left _ (Nat.succ_pos c)
    omega
theorem wrs_le : ∀ xs : List It, (joinC (wrs xs)).length ≤ costs xs
  | [] => by simp [wrs, joinC]
  | [x] => by
    have := wr_le x
    simp only [wrs, joinC, costs]; omega
  | x :: y :: r => by
    have h1 := wr_le x
    have h2 := wrs_le (y :: r)
    simp only [wrs] at h2 ⊢
    rw [joinC_cons (by simp)]
    simp only [List.length_append, List.length_cons]
    rw [costs]; omega
end
mutual
theorem fl_le : ∀ x : It, (fl x).length ≤ cost x
  | .tok c w => by rw [fl, cost]; exact Nat.le_refl _
  | .br none xs => by
    have := fls_le xs
    simp only [fl, cost]; omega
  | .br (some c) xs => by
    have h := fls_le xs
    simp only [fl, cost]
    refine Nat.le_trans (length_replicate_join _ _) ?_
    have h1 : c * ((joinC (fls xs)).length + 1) ≤ (c + 1) * (costs xs + 1) := Nat.mul_le_mul (by omega) (by omega)
    omega
theorem fls_le : ∀ xs : List It, (joinC (fls xs)).length ≤ costs xs
  | [] => by simp [fls, joinC]
  | [x] => by
    have := fl_le x
    simp only [fls, joinC, costs]; omega
  | x :: y :: r => by
    have h1 := fl_le x
    have h2 := fls_le (y :: r)
    simp only [fls] at h2 ⊢
    rw [joinC_cons (by simp)]
    simp only [List.length_append, List.length_cons]
    rw [costs]; omega
end

/-- signs of which we use that they are no decimals -/
def nodig (c : Nat) : Bool := c == 44 || c == 117

/-- how expand_brackets ends on a text: with a text, or (none) refused; no text on the way is longer than B -/
inductive Ends (B : Nat) : List Nat → Option (List Nat) → Prop
  | stop {y : List Nat} : 40 ∉ y → Ends B y (some y)
  | plain {a b c : List Nat} {r : Option (List Nat)} : 40 ∉ a → a.getLast? ≠ some 42 → run 1 b = some 1 → (a ++ (b ++ c)).length ≤ B → Ends B (a ++ (b ++ c)) r →
      Ends B (a ++ 40 :: (b ++ 41 :: c)) r
  | nought {a b c : List Nat} {r : Option (List Nat)} : 40 ∉ a → (∀ k, a.getLast? = some k → nodig k = true) → run 1 b = some 1 → (a ++ c).length ≤ B → Ends B (a ++ c) r →
      Ends B (a ++ 48 :: 42 :: 40 :: (b ++ 41 :: c)) r
  | times {a b c : List Nat} {d : Nat} {r : Option (List Nat)} : 40 ∉ a → (∀ k, a.getLast? = some k → nodig k = true) → d < 9 → run 1 b = some 1 →
      (a ++ (joinC (List.replicate (d + 1) b) ++ c)).length ≤ B → Ends B (a ++ (joinC (List.replicate (d + 1) b) ++ c)) r →
      Ends B (a ++ (48 + (d + 1)) :: 42 :: 40 :: (b ++ 41 :: c)) r
  | opened {a b : List Nat} {k : Nat} : 40 ∉ a → run 1 b = some k → Ends B (a ++ 40 :: b) none
  | star {a b c : List Nat} : 40 ∉ a → (∀ k, a.getLast? = some k → nodig k = true) → run 1 b = some 1 → Ends B (a ++ 42 :: 40 :: (b ++ 41 :: c)) none

/-- what may stand ahead of an item -/
def Good (a : List Nat) : Prop := 40 ∉ a ∧ (a = [] ∨ a.getLast? = some 44)
theorem Good.nil : Good [] := ⟨by simp, .inl rfl⟩
theorem Good.more {a : List Nat} {x : List Nat} (h : Good a) (hx : ∀ c ∈ x, c ≠ 40) : Good (a ++ (x ++ [44])) := by
  refine ⟨fun hm => ?_, .inr (by simp)⟩
  rcases List.mem_append.mp hm with hm | hm
  · exact h.1 hm
  · rcases List.mem_append.mp hm with hm | hm
    · exact hx _ hm rfl
    · simp at hm
theorem Good.star {a : List Nat} (h : Good a) : a.getLast? ≠ some 42 := by
  rcases h.2 with e | e <;> simp [e]
theorem Good.digit {a : List Nat} (h : Good a) : ∀ k, a.getLast? = some k → nodig k = true := by
  intro k hk
  rcases h.2 with e | e
  · simp [e] at hk
  · rw [e] at hk; cases hk; decide

theorem copies {B : Nat} {J F : List Nat} {n : Nat} (hJ : J.length ≤ n) (hF : F.length ≤ n) (hp : ∀ c ∈ F, c ≠ 40)
    (one : ∀ (a p : List Nat) (r : Option (List Nat)), Good a → a.length + n + p.length ≤ B → Ends B (a ++ (F ++ p)) r → Ends B (a ++ (J ++ p)) r) :
    ∀ (c : Nat) (a p : List Nat) (r : Option (List Nat)), Good a → a.length + c * (n + 1) + p.length ≤ B → Ends B (a ++ (joinC (List.replicate c F) ++ p)) r → Ends B (a ++ (joinC (List.replicate c J) ++ p)) r
  | 0, a, p, r, h, hb, e => by simpa using e
  | 1, a, p, r, h, hb, e => by
    simp only [List.replicate, joinC] at e ⊢
    exact one a p r h (by omega) e
  | c + 2, a, p, r, h, hb, e => by
    rw [List.replicate_succ, joinC_cons (by simp), List.append_assoc] at e ⊢
    have hl := length_replicate_join (c + 1) J
    have hl2 : (c + 1) * (J.length + 1) ≤ (c + 1) * (n + 1) := Nat.mul_le_mul_left _ (by omega)
    have hx : (c + 2) * (n + 1) = (n + 1) + (c + 1) * (n + 1) := by rw [show c + 2 = 1 + (c + 1) by omega, Nat.add_mul]; omega
    refine one a _ r h (by simp only [List.length_append, List.length_cons]; omega) ?_
    have ih := copies hJ hF hp one (c + 1) (a ++ (F ++ [44])) p r (h.more hp) (by simp only [List.length_append, List.length_cons, List.length_nil]; omega)
    have l1 : a ++ (F ++ [44]) ++ (joinC (List.replicate (c + 1) F) ++ p) = a ++ (F ++ (44 :: joinC (List.replicate (c + 1) F) ++ p)) := by simp
    have l2 : a ++ (F ++ [44]) ++ (joinC (List.replicate (c + 1) J) ++ p) = a ++ (F ++ (44 :: joinC (List.replicate (c + 1) J) ++ p)) := by simp
    rw [l1, l2] at ih
    exact ih e

mutual
theorem item_ends {B : Nat} : ∀ (x : It) (d : Nat) (a p : List Nat) (r : Option (List Nat)), Ok d x → Good a → a.length + cost x + p.length ≤ B → Ends B (a ++ (fl x ++ p)) r → Ends B (a ++ (wr x ++ p)) r
  | .tok c w, d, a, p, r, ho, hg, hb, e => by rw [wr]; rw [fl] at e; exact e
  | .br none xs, d, a, p, r, ho, hg, hb, e => by
    simp only [Ok] at ho
    obtain ⟨hc, hx, hl, hd, ho⟩ := ho
    have hr := run_wrs xs (d - 1) 1 ho (Nat.le_refl _)
    have h1 := wrs_le xs
    simp only [cost] at hb
    simp only [fl] at e
    simp only [wr, headC, List.nil_append, List.cons_append, List.append_assoc]
    refine Ends.plain hg.1 hg.star hr (by simp only [List.length_append]; omega) ?_
    exact items_ends xs (d - 1) a p r ho hx hg (by omega) e
  | .br (some 0) xs, d, a, p, r, ho, hg, hb, e => by
    simp only [Ok] at ho
    obtain ⟨hc, hx, hl, hd, ho⟩ := ho
    have hr := run_wrs xs (d - 1) 1 ho (Nat.le_refl _)
    simp only [cost] at hb
    simp only [fl, List.replicate, joinC, List.nil_append] at e
    simp only [wr, headC, List.nil_append, List.cons_append, List.append_assoc]
    refine Ends.nought hg.1 hg.digit hr (by simp only [List.length_append]; omega) e
  | .br (some (c + 1)) xs, d, a, p, r, ho, hg, hb, e => by
    simp only [Ok] at ho
    obtain ⟨hc, hx, hl, hd, ho⟩ := ho
    have hc' := hc (c + 1) rfl
    have hr := run_wrs xs (d - 1) 1 ho (Nat.le_refl _)
    have h1 := wrs_le xs
    have h2 := fls_le xs
    have hl := length_replicate_join (c + 1) (joinC (wrs xs))
    have hl2 : (c + 1) * ((joinC (wrs xs)).length + 1) ≤ (c + 1) * (costs xs + 1) := Nat.mul_le_mul_left _ (by omega)
    have hx2 : (c + 1 + 1) * (costs xs + 1) = (c + 1) * (costs xs + 1) + (costs xs + 1) := by rw [Nat.add_mul]; omega
    simp only [cost] at hb
    simp only [fl] at e
    simp only [wr, headC, List.nil_append, List.cons_append, List.append_assoc]
    refine Ends.times hg.1 hg.digit (by omega) hr (by simp only [List.length_append]; omega) ?_
    exact copies (n := costs xs) h1 h2 (fls_plain xs (d - 1) ho) (fun a p r g b e => items_ends xs (d - 1) a p r ho hx g b e) (c + 1) a p r hg (by omega) e
theorem items_ends {B : Nat} : ∀ (xs : List It) (d : Nat) (a p : List Nat) (r : Option (List Nat)), Oks d xs → xs ≠ [] → Good a → a.length + costs xs + p.length ≤ B → Ends B (a ++ (joinC (fls xs) ++ p)) r → Ends B (a ++ (joinC (wrs xs) ++ p)) r
  | [], d, a, p, r, ho, hx, hg, hb, e => absurd rfl hx
  | [x], d, a, p, r, ho, hx, hg, hb, e => by
    simp only [Oks] at ho
    simp only [costs] at hb
    simp only [wrs, fls, joinC] at e ⊢
    exact item_ends x d a p r ho.1 hg (by omega) e
  | x :: y :: t, d, a, p, r, ho, hx, hg, hb, e => by
    simp only [Oks] at ho
    have h2 := wrs_le (y :: t)
    have h3 := fl_le x
    rw [costs] at hb
    have hw : joinC (wrs (x :: y :: t)) = wr x ++ 44 :: joinC (wrs (y :: t)) := by simp only [wrs]; exact joinC_cons (by simp)
    have hf : joinC (fls (x :: y :: t)) = fl x ++ 44 :: joinC (fls (y :: t)) := by simp only [fls]; exact joinC_cons (by simp)
    rw [hw, List.append_assoc]
    rw [hf, List.append_assoc] at e
    refine item_ends x d a (44 :: joinC (wrs (y :: t)) ++ p) r ho.1 hg (by simp only [List.length_append, List.length_cons]; omega) ?_
    have ih := items_ends (B := B) (y :: t) d (a ++ (fl x ++ [44])) p r ⟨ho.2.1, ho.2.2⟩ (by simp) (hg.more (fl_plain x d ho.1)) (by simp only [List.length_append, List.length_cons, List.length_nil]; omega)
    have l1 : a ++ (fl x ++ [44]) ++ (joinC (fls (y :: t)) ++ p) = a ++ (fl x ++ (44 :: joinC (fls (y :: t)) ++ p)) := by simp
    have l2 : a ++ (fl x ++ [44]) ++ (joinC (wrs (y :: t)) ++ p) = a ++ (fl x ++ (44 :: joinC (wrs (y :: t)) ++ p)) := by simp
    rw [l1, l2] at ih
    exact ih e
end

/-- a text that lacks one of its closing signs -/
theorem cut_ends {B : Nat} : ∀ (xs : List It) (d : Nat) (a u v p : List Nat) (k : Nat), Oks d xs → Good a → a.length + costs xs + p.length ≤ B → run 1 p = some k → joinC (wrs xs) = u ++ 41 :: v → Ends B (a ++ (u ++ (v ++ p))) none := by
  have inside : ∀ (x : It) (d : Nat) (a u v p : List Nat) (k : Nat), Ok d x → 40 ∉ a → run 1 p = some k → wr x = u ++ 41 :: v → Ends B (a ++ (u ++ (v ++ p))) none := by
    intro x d a u v p k ho ha hp e
    cases x with
    | tok c w =>
      simp only [Ok] at ho
      rw [wr] at e
      have : 41 ∈ headC c ++ w := by rw [e]; simp
      rcases List.mem_append.mp this with h | h
      · exact absurd rfl (head_plain ho.1 _ h).2.1
      · exact absurd rfl (word_plain ho.2 _ h).2.1
    | br c xs =>
      simp only [Ok] at ho
      obtain ⟨hc, hx, hl, hd, ho⟩ := ho
      have hh : ∀ z ∈ headC c, z ≠ 40 ∧ z ≠ 41 ∧ z ≠ 44 := head_plain fun k hk => Nat.le_succ_of_le (hc k hk)
      rw [wr] at e
      -- the head and the bracket's sign lie in u
      have hu : ∃ u', u = headC c ++ 40 :: u' ∧ joinC (wrs xs) ++ [41] = u' ++ 41 :: v := by
        have e' : headC c ++ ([40] ++ (joinC (wrs xs) ++ [41])) = u ++ 41 :: v := by simpa using e
        rw [← List.append_assoc] at e'
        rcases List.append_eq_append_iff.mp e' with ⟨t, h1, h2⟩ | ⟨t, h1, h2⟩
        · exact ⟨t, by simp [h1], h2⟩
        · cases t with
          | nil =>
            simp only [List.nil_append] at h2
            exact ⟨[], by simpa using h1.symm, by simpa using h2.symm⟩
          | cons z t =>
            simp only [List.cons_append, List.cons.injEq] at h2
            have : 41 ∈ headC c ++ [40] := by rw [h1, ← h2.1]; simp
            rcases List.mem_append.mp this with h | h
            · exact absurd rfl (hh _ h).2.1
            · simp at h
      obtain ⟨u', rfl, h2⟩ := hu
      have hJ := run_wrs xs (d - 1) 1 ho (Nat.le_refl _)
      -- u' is the beginning of the bracket's inside
      have hpre : ∃ t, joinC (wrs xs) = u' ++ t := by
        rcases List.append_eq_append_iff.mp h2 with ⟨t, h1, h3⟩ | ⟨t, h1, h3⟩
        · cases t with
          | nil => exact ⟨[], by simpa using h1.symm⟩
          | cons z t =>
            exfalso
            have := congrArg List.length h3
            simp at this
        · exact ⟨t, h1⟩
      obtain ⟨t, ht⟩ := hpre
      have hrun : ∃ j, run 1 u' = some j ∧ 1 ≤ j := by
        rw [ht, run_append] at hJ
        cases hq : run 1 u' with
        | none => rw [hq] at hJ; cases hJ
        | some j => exact ⟨j, rfl, run_pos (Nat.le_refl _) hq⟩
      obtain ⟨j, hj, hj1⟩ := hrun
      have h5 : run 2 (joinC (wrs xs) ++ [41]) = some 1 := by
        rw [run_append, run_succ hJ]; simp [run]
      rw [h2, run_append, run_succ hj] at h5
      simp only [Option.bind_some] at h5
      unfold run at h5
      rw [if_neg (by decide), if_pos rfl, if_neg (by omega)] at h5
      have h6 : run 1 (u' ++ (v ++ p)) = some k := by
        rw [run_append, hj, Option.bind_some, run_append]
        rw [show j + 1 - 1 = j by omega] at h5
        rw [h5, Option.bind_some, hp]
      have : a ++ (headC c ++ 40 :: u' ++ (v ++ p)) = (a ++ headC c) ++ 40 :: (u' ++ (v ++ p)) := by simp
      rw [this]
      refine Ends.opened (fun hm => ?_) h6
      rcases List.mem_append.mp hm with h | h
      · exact ha h
      · exact (hh _ h).1 rfl
  intro xs
  induction xs with
  | nil => intro d a u v p k ho hg hb hp e; simp [wrs, joinC] at e
  | cons x t ih =>
    intro d a u v p k ho hg hb hp e
    simp only [Oks] at ho
    cases t with
    | nil =>
      simp only [wrs, joinC] at e
      exact inside x d a u v p k ho.1 hg.1 hp e
    | cons y t =>
      have hw : joinC (wrs (x :: y :: t)) = wr x ++ 44 :: joinC (wrs (y :: t)) := by simp only [wrs]; exact joinC_cons (by simp)
      rw [hw] at e
      rcases List.append_eq_append_iff.mp e with ⟨s, h1, h2⟩ | ⟨s, h1, h2⟩
      · cases s with
        | nil =>
          simp at h2
        | cons z s =>
          simp only [List.cons_append, List.cons.injEq] at h2
          obtain ⟨hz, h2⟩ := h2
          subst hz
          subst h1
          have hlen := congrArg List.length h2
          have hle := wrs_le (y :: t)
          have hfl := fl_le x
          rw [costs] at hb
          simp only [List.length_append, List.length_cons] at hlen
          rw [List.append_assoc]
          refine item_ends x d a (44 :: s ++ (v ++ p)) none ho.1 hg (by simp only [List.length_append, List.length_cons]; omega) ?_
          have := ih d (a ++ (fl x ++ [44])) s v p k ho.2 (hg.more (fl_plain x d ho.1)) (by simp only [List.length_append, List.length_cons, List.length_nil]; omega) hp h2
          simpa using this
      · -- inside the first item
        cases s with
        | nil => simp at h2
        | cons z s =>
          simp only [List.cons_append, List.cons.injEq] at h2
          obtain ⟨hz, h2⟩ := h2
          subst hz
          have hr : run 1 (44 :: joinC (wrs (y :: t)) ++ p) = some k := by
            have := run_wrs (y :: t) d 1 ho.2 (Nat.le_refl _)
            rw [run_append]
            simp only [run]
            rw [if_neg (by decide), if_neg (by decide), this]
            exact hp
          have := inside x d a u s (44 :: joinC (wrs (y :: t)) ++ p) k ho.1 hg.1 hr h1
          rw [h2]
          simpa using this

end Mine
end

section
set_option linter.unusedVariables false
namespace Mine

def splitC : List Nat → List (List Nat)
  | [] => [[]]
  | c :: l => if c = 44 then [] :: splitC l else match splitC l with
    | [] => [[c]]
    | p :: ps => (c :: p) :: ps
theorem splitC_ne (l : List Nat) : splitC l ≠ [] := by
  cases l with
  | nil => simp [splitC]
  | cons c l =>
    simp only [splitC]
    split
    · simp
    · split <;> simp
theorem splitC_append (a b : List Nat) : splitC (a ++ 44 :: b) = splitC a ++ splitC b := by
  induction a with
  | nil => simp [splitC]
  | cons c l ih =>
    simp only [List.cons_append, splitC]
    split
    · rw [ih]; rfl
    · rw [ih]
      cases h : splitC l with
      | nil => exact absurd h (splitC_ne l)
      | cons p ps => simp
theorem splitC_plain {a : List Nat} (h : ∀ c ∈ a, c ≠ 44) : splitC a = [a] := by
  induction a with
  | nil => rfl
  | cons c l ih =>
    simp only [splitC]
    rw [if_neg (h c (by simp)), ih fun c hc => h c (List.mem_cons_of_mem _ hc)]

/-- what a piece between commas tells; none: refused -/
inductive Piece : List Nat → Option (List (List Nat)) → Prop
  | nil : Piece [] (some [])
  | word {w : List Nat} : w ∈ words → Piece w (some [w])
  | count {c : Nat} {w : List Nat} : c ≤ 3 → w ∈ words → Piece ((48 + c) :: 42 :: w) (some (List.replicate c w))
  | minus {k : Nat} : 1 ≤ k → k ≤ 7 → Piece [45, 48 + k, 42, 117, 56] none
  | letter : Piece [120, 42, 117, 56] none
  | twice : Piece [50, 42, 51, 42, 117, 56] none
inductive Coll : List (List Nat) → Option (List (List Nat)) → Prop
  | nil : Coll [] (some [])
  | more {p : List Nat} {t : List (List Nat)} {ps : List (List Nat)} {r : Option (List (List Nat))} : Piece p (some t) → Coll ps r → Coll (p :: ps) (r.map (t ++ ·))
  | bad {p : List Nat} {ps : List (List Nat)} : Piece p none → Coll (p :: ps) none

theorem Coll.append {ps qs : List (List Nat)} {o : Option (List (List Nat))} {r : Option (List (List Nat))} (h1 : Coll ps o) : ∀ {a}, o = some a → Coll qs r → Coll (ps ++ qs) (r.map (a ++ ·)) := by
  induction h1 with
  | nil => intro a e h2; cases e; cases r <;> exact h2
  | @more p t ps r' hp hc ih =>
    intro a e h2
    cases r' with
    | none => cases e
    | some b =>
      simp only [Option.map_some, Option.some.injEq] at e
      have := Coll.more hp (ih rfl h2)
      rw [List.cons_append]
      cases r with
      | none => exact this
      | some q => rw [← e]; simpa using this
  | bad => intro a e; cases e

theorem word_plain' {w : List Nat} (h : w ∈ words) : ∀ c ∈ w, c ≠ 44 := fun c hc => (word_plain h c hc).2.2.2
theorem coll_one {p : List Nat} {t : List (List Nat)} (h : Piece p (some t)) : Coll [p] (some t) := by
  have := Coll.more h Coll.nil
  simpa using this

theorem coll_copies {F : List Nat} {t : List (List Nat)} (h : Coll (splitC F) (some t)) : ∀ c : Nat, Coll (splitC (joinC (List.replicate c F))) (some (List.replicate c t).flatten)
  | 0 => by simpa [joinC, splitC] using coll_one Piece.nil
  | 1 => by simpa [joinC] using h
  | c + 2 => by
    rw [List.replicate_succ, joinC_cons (by simp), splitC_append]
    have := Coll.append h rfl (coll_copies h (c + 1))
    rw [List.replicate_succ (a := t), List.flatten_cons]
    exact this

mutual
theorem coll_fl : ∀ (x : It) (d : Nat), Ok d x → Coll (splitC (fl x)) (some (told x))
  | .tok none w, d, h => by
    simp only [Ok] at h
    simp only [fl, told, headC, List.nil_append]
    rw [splitC_plain (word_plain' h.2)]
    exact coll_one (Piece.word h.2)
  | .tok (some c) w, d, h => by
    simp only [Ok] at h
    have hc := h.1 c rfl
    simp only [fl, told, headC, List.cons_append, List.nil_append]
    rw [splitC_plain (by
      intro k hk
      rcases List.mem_cons.mp hk with e | hk
      · omega
      · rcases List.mem_cons.mp hk with e | hk
        · omega
        · exact word_plain' h.2 k hk)]
    exact coll_one (Piece.count hc h.2)
  | .br none xs, d, h => by
    simp only [Ok] at h
    simp only [fl, told]
    exact coll_fls xs (d - 1) h.2.2.2.2 h.2.1
  | .br (some c) xs, d, h => by
    simp only [Ok] at h
    simp only [fl, told]
    exact coll_copies (coll_fls xs (d - 1) h.2.2.2.2 h.2.1) c
theorem coll_fls : ∀ (xs : List It) (d : Nat), Oks d xs → xs ≠ [] → Coll (splitC (joinC (fls xs))) (some (tolds xs))
  | [], d, h, hx => absurd rfl hx
  | [x], d, h, hx => by
    simp only [Oks] at h
    simp only [fls, joinC, tolds, List.append_nil]
    exact coll_fl x d h.1
  | x :: y :: t, d, h, hx => by
    simp only [Oks] at h
    have hf : joinC (fls (x :: y :: t)) = fl x ++ 44 :: joinC (fls (y :: t)) := by simp only [fls]; exact joinC_cons (by simp)
    rw [hf, splitC_append, tolds]
    have := Coll.append (coll_fl x d h.1) rfl (coll_fls (y :: t) d ⟨h.2.1, h.2.2⟩ (by simp))
    simpa using this
end

def cb : Nat → Nat
  | 0 => 8
  | d + 1 => 3 * (3 * (cb d + 1) + 1) + 4
theorem cb_mono : ∀ d, 8 ≤ cb d
  | 0 => Nat.le_refl _
  | d + 1 => by have := cb_mono d; rw [cb]; omega
theorem word_len {w : List Nat} (h : w ∈ words) : w.length ≤ 6 ∧ 1 ≤ w.length := by
  revert w; decide
theorem head_len (c : Option Nat) : (headC c).length ≤ 2 := by cases c <;> simp [headC]
mutual
theorem cost_le : ∀ (x : It) (d : Nat), Ok d x → cost x ≤ cb d
  | .tok c w, d, h => by
    simp only [Ok] at h
    have h1 := word_len h.2
    have h2 := head_len c
    have h3 := cb_mono d
    simp only [cost, List.length_append]; omega
  | .br none xs, 0, h => by simp only [Ok] at h; omega
  | .br (some c) xs, 0, h => by simp only [Ok] at h; omega
  | .br none xs, d + 1, h => by
    simp only [Ok] at h
    have h1 := costs_le xs d h.2.2.2.2
    have h2 : xs.length * (cb d + 1) ≤ 3 * (cb d + 1) := Nat.mul_le_mul_right _ h.2.2.1
    simp only [cost, cb]; omega
  | .br (some c) xs, d + 1, h => by
    simp only [Ok] at h
    have h1 := costs_le xs d h.2.2.2.2
    have h2 : xs.length * (cb d + 1) ≤ 3 * (cb d + 1) := Nat.mul_le_mul_right _ h.2.2.1
    have h3 := h.1 c rfl
    have h4 : (c + 1) * (costs xs + 1) ≤ 3 * (3 * (cb d + 1) + 1) := Nat.mul_le_mul (by omega) (by omega)
    simp only [cost, cb]; omega
theorem costs_le : ∀ (xs : List It) (d : Nat), Oks d xs → costs xs ≤ xs.length * (cb d + 1)
  | [], d, h => by simp [costs]
  | x :: r, d, h => by
    simp only [Oks] at h
    have h1 := cost_le x d h.1
    have h2 := costs_le r d h.2
    simp only [costs, List.length_cons]
    rw [Nat.add_mul]; omega
end

theorem wrs_append (xs ys : List It) : wrs (xs ++ ys) = wrs xs ++ wrs ys := by simp [wrs_eq]
theorem fls_append (xs ys : List It) : fls (xs ++ ys) = fls xs ++ fls ys := by simp [fls_eq]
theorem joinC_snoc : ∀ {xs : List (List Nat)} (x : List Nat), xs ≠ [] → joinC (xs ++ [x]) = joinC xs ++ 44 :: x
  | [], x, h => absurd rfl h
  | [y], x, h => by simp [joinC]
  | y :: z :: r, x, h => by
    have := joinC_snoc (xs := z :: r) x (by simp)
    have e : y :: z :: r ++ [x] = y :: (z :: r ++ [x]) := rfl
    rw [e, joinC_cons (r := z :: r ++ [x]) (by simp), this, joinC_cons (x := y) (r := z :: r) (by simp), List.append_assoc, List.cons_append]

/-- the bound of all texts on the way -/
def BB : Nat := 100000
structure Items (xs : List It) : Prop where
  ok : Oks 2 xs
  ne : xs ≠ []
  le : xs.length ≤ 4

namespace Items
variable {xs : List It} (h : Items xs)
include h
theorem cost : costs xs ≤ 3300 := by
  have h1 := costs_le xs 2 h.ok
  have h2 : xs.length * (cb 2 + 1) ≤ 4 * (cb 2 + 1) := Nat.mul_le_mul_right _ h.le
  have h3 : cb 2 = 808 := by decide
  omega
theorem text_le : (joinC (wrs xs)).length ≤ 3300 := Nat.le_trans (wrs_le xs) h.cost
theorem flat_le : (joinC (fls xs)).length ≤ 3300 := Nat.le_trans (fls_le xs) h.cost
theorem flat_plain : 40 ∉ joinC (fls xs) := fun hm => fls_plain xs 2 h.ok 40 hm rfl
theorem wne : wrs xs ≠ [] := by
  intro e
  rw [wrs_eq] at e
  exact h.ne (List.map_eq_nil_iff.mp e)
theorem fne : fls xs ≠ [] := by
  intro e
  rw [fls_eq] at e
  exact h.ne (List.map_eq_nil_iff.mp e)
theorem post {p : List Nat} {r : Option (List Nat)} (hp : p.length ≤ 90000) (e : Ends BB (joinC (fls xs) ++ p) r) : Ends BB (joinC (wrs xs) ++ p) r := by
  have := items_ends (B := BB) xs 2 [] p r h.ok h.ne Good.nil (by have := h.cost; simp only [BB, List.length_nil]; omega)
  simpa using this (by simpa using e)
theorem text_ends : Ends BB (joinC (wrs xs)) (some (joinC (fls xs))) := by
  have := h.post (p := []) (by simp) (r := some (joinC (fls xs))) (by simpa using Ends.stop (h.flat_plain))
  simpa using this
theorem flat_ends : Ends BB (joinC (fls xs)) (some (joinC (fls xs))) := Ends.stop h.flat_plain
theorem told_coll : Coll (splitC (joinC (fls xs))) (some (tolds xs)) := coll_fls xs 2 h.ok h.ne
theorem whole_eq : joinC (wrs (xs ++ [.br none [.tok none [117, 56]]])) = joinC (wrs xs) ++ [44, 40, 117, 56, 41] := by
  rw [wrs_append]
  simp only [wrs, wr, headC, joinC]
  rw [joinC_snoc _ h.wne]; simp
theorem cut {u v : List Nat} (e : joinC (wrs xs) ++ [44, 40, 117, 56, 41] = u ++ 41 :: v) : Ends BB (u ++ v) none := by
  have ho : Oks 2 (xs ++ [.br none [.tok none [117, 56]]]) := by
    rw [Oks_iff]
    intro x hx
    rcases List.mem_append.mp hx with hx | hx
    · exact (Oks_iff xs).mp h.ok x hx
    · rw [List.mem_singleton.mp hx]; simp [Ok, Oks, words]
  have hb : costs (xs ++ [.br none [.tok none [117, 56]]]) ≤ 5 * (cb 2 + 1) := by
    refine Nat.le_trans (costs_le _ 2 ho) (Nat.mul_le_mul_right _ ?_)
    have := h.le
    simp only [List.length_append, List.length_cons, List.length_nil]; omega
  have h3 : cb 2 = 808 := by decide
  have := cut_ends (B := BB) _ 2 [] u v [] 1 ho Good.nil (by simp only [BB, List.length_nil]; omega) rfl (h.whole_eq.trans e)
  simpa using this
theorem star : Ends BB (joinC (wrs xs) ++ [44, 42, 40, 117, 56, 41]) none := by
  refine h.post (by simp) ?_
  have := Ends.star (B := BB) (a := joinC (fls xs) ++ [44]) (b := [117, 56]) (c := []) (by
    intro hm
    rcases List.mem_append.mp hm with hm | hm
    · exact h.flat_plain hm
    · simp at hm) (by intro k hk; simp at hk; subst hk; rfl) (by decide)
  simpa using this
theorem ustar : Ends BB (joinC (wrs xs) ++ [44, 117, 42, 40, 117, 56, 41]) none := by
  refine h.post (by simp) ?_
  have := Ends.star (B := BB) (a := joinC (fls xs) ++ [44, 117]) (b := [117, 56]) (c := []) (by
    intro hm
    rcases List.mem_append.mp hm with hm | hm
    · exact h.flat_plain hm
    · simp at hm) (by intro k hk; simp at hk; subst hk; rfl) (by decide)
  simpa using this
theorem odd_ends {o : List Nat} (h1 : o.length ≤ 100) (h2 : 40 ∉ o) : Ends BB (joinC (wrs xs) ++ 44 :: o) (some (joinC (fls xs) ++ 44 :: o)) := by
  refine h.post (by simp only [List.length_cons]; omega) (Ends.stop ?_)
  intro hm
  rcases List.mem_append.mp hm with hm | hm
  · exact h.flat_plain hm
  · rcases List.mem_cons.mp hm with e | hm
    · omega
    · exact h2 hm
theorem odd_coll {o : List Nat} (h1 : ∀ c ∈ o, c ≠ 44) (h2 : Piece o none) : Coll (splitC (joinC (fls xs) ++ 44 :: o)) none := by
  rw [splitC_append, splitC_plain h1]
  exact Coll.append h.told_coll rfl (Coll.bad h2)
theorem twice_ends : Ends BB (joinC (wrs xs) ++ (44 :: 40 :: (joinC (wrs xs) ++ [41]))) (some (joinC (fls xs) ++ 44 :: joinC (fls xs))) := by
  have hl := h.text_le
  have hf := h.flat_le
  have hc := h.cost
  refine h.post (by simp only [List.length_cons, List.length_append, List.length_nil]; omega) ?_
  have hr := run_wrs xs 2 1 h.ok (Nat.le_refl _)
  have := Ends.plain (B := BB) (a := joinC (fls xs) ++ [44]) (b := joinC (wrs xs)) (c := []) (r := some (joinC (fls xs) ++ 44 :: joinC (fls xs))) (by
    intro hm
    rcases List.mem_append.mp hm with hm | hm
    · exact h.flat_plain hm
    · simp at hm) (by simp) hr (by simp only [List.length_cons, List.length_append, List.length_nil, BB]; omega) ?_
  · simpa using this
  · have hg : Good (joinC (fls xs) ++ [44]) := by
      have := Good.nil.more (x := joinC (fls xs)) (fls_plain xs 2 h.ok)
      simpa using this
    have h4 := items_ends (B := BB) xs 2 (joinC (fls xs) ++ [44]) [] (some (joinC (fls xs) ++ 44 :: joinC (fls xs))) h.ok h.ne hg (by simp only [List.length_cons, List.length_append, List.length_nil, BB]; omega)
    refine h4 ?_
    have h5 : joinC (fls xs) ++ [44] ++ (joinC (fls xs) ++ []) = joinC (fls xs) ++ 44 :: joinC (fls xs) := by simp
    rw [h5]
    refine Ends.stop ?_
    intro hm
    rcases List.mem_append.mp hm with hm | hm
    · exact h.flat_plain hm
    · rcases List.mem_cons.mp hm with e | hm
      · omega
      · exact h.flat_plain hm
theorem twice_coll : Coll (splitC (joinC (fls xs) ++ 44 :: joinC (fls xs))) (some (tolds xs ++ tolds xs)) := by
  rw [splitC_append]
  exact Coll.append h.told_coll rfl h.told_coll
end Items

end Mine
end

section
/-! the machine of regular expressions, run on texts -/
open PySem
set_option linter.unusedVariables false
set_option maxRecDepth 100000
namespace Mine
open PySem.Sre

def iter : Nat → M → M
  | 0, m => m
  | n + 1, m => iter n m.step
theorem iter_add (a b : Nat) (m : M) : iter (a + b) m = iter b (iter a m) := by
  induction a generalizing m with
  | zero => simp [iter]
  | succ a ih => rw [show a + 1 + b = (a + b) + 1 by omega]; exact ih m.step
theorem step_out {m : M} (h : m.outcome.isSome = true) : m.step = m := by
  unfold M.step; rw [if_pos h]
theorem iter_out {m : M} (h : m.outcome.isSome = true) : ∀ n, iter n m = m
  | 0 => rfl
  | n + 1 => by rw [iter, step_out h]; exact iter_out h n
theorem runFor_iter : ∀ (n : Nat) (m : M), M.runFor n m = iter n m
  | 0, m => rfl
  | n + 1, m => by
    unfold M.runFor
    by_cases h : m.outcome.isSome = true
    · rw [if_pos h, iter_out h]
    · rw [if_neg h, iter]; exact runFor_iter n m.step

/-- within N steps the machine comes to a state of R -/
def Comes (N : Nat) (m : M) (R : M → Prop) : Prop := ∃ k, k ≤ N ∧ R (iter k m)
theorem Comes.here {N : Nat} {m : M} {R : M → Prop} (h : R m) : Comes N m R := ⟨0, Nat.zero_le _, h⟩
theorem Comes.step {N : Nat} {m m' : M} {R : M → Prop} (e : m.step = m') (h : Comes N m' R) : Comes (N + 1) m R := by
  obtain ⟨k, hk, hr⟩ := h
  exact ⟨k + 1, by omega, by rw [iter, e]; exact hr⟩
theorem Comes.then {N N' : Nat} {m : M} {R R' : M → Prop} (h : Comes N m R) (h' : ∀ m', R m' → Comes N' m' R') : Comes (N + N') m R' := by
  obtain ⟨k, hk, hr⟩ := h
  obtain ⟨k', hk', hr'⟩ := h' _ hr
  exact ⟨k + k', by omega, by rw [iter_add]; exact hr'⟩
theorem Comes.mono {N N' : Nat} {m : M} {R : M → Prop} (h : Comes N m R) (hn : N ≤ N') : Comes N' m R := by
  obtain ⟨k, hk, hr⟩ := h
  exact ⟨k, by omega, hr⟩

/-- BRACKET_RE's words -/
def BC : Array Nat := #[14, 4, 0, 3, 4294967295, 17, 0, 24, 9, 1, 4294967295, 13, 4, 8, 10, 0, 1, 17, 1, 16, 42, 16, 40, 6, 5, 1]

def bst (t : Array Nat) (lim ls start pc pos handed : Nat) (om : Bool) (marks : Array (Option Nat)) (lm li : Int) (frames : List Sre.Frame) (weight : Nat) (ans : Option Bool) (seen : Seen) : M :=
  { code := BC, text := t, lim, start, lastStart := ls, pc, pos, handed, outermost := om, marks, lastmark := lm, lastindex := li, frames, weight, answer := ans, seen }

def fS (i : Nat) (om : Bool) : Sre.Frame := { wait := .nextStart, pc := 5, pos := i, outermost := om }
def fG (p : Nat) (om : Bool) (n : Nat) : Sre.Frame := { wait := .giveBack, pc := 7, pos := p, outermost := om, count := n, kept := { lastmark := 0, lastindex := -1, whole := false, marks := #[] } }

section
variable {t : Array Nat} {lim ls start pos handed w : Nat} {om : Bool} {marks : Array (Option Nat)} {lm li : Int} {fr : List Sre.Frame} {seen : Seen}

theorem b_mark0 : (bst t lim ls start 5 pos handed om marks (-1) li fr w none seen).step = bst t lim ls start 7 pos handed om (marks.setIfInBounds 0 (some pos)) 0 li fr w none (seen.add 17) := rfl
theorem b_mark1 : (bst t lim ls start 17 pos handed om marks 0 li fr w none seen).step = bst t lim ls start 19 pos handed om (marks.setIfInBounds 1 (some pos)) 1 1 fr w none (seen.add 17) := by with_unfolding_all rfl
theorem b_lit1 (hl : pos < lim) (hc : t.getD pos 0 = 42) : (bst t lim ls start 19 pos handed om marks lm li fr w none seen).step = bst t lim ls start 21 (pos + 1) handed om marks lm li fr w none (seen.add 16) := by
  show (if pos ≥ lim then _ else (match (Except.ok (t.getD pos 0 == 42, seen.add 16) : Except String (Bool × Seen)) with | .error why => _ | .ok (false, seen) => _ | .ok (true, seen) => _)) = _
  rw [if_neg (by omega), hc]
  rfl
theorem b_lit2 (hl : pos < lim) (hc : t.getD pos 0 = 40) : (bst t lim ls start 21 pos handed om marks lm li fr w none seen).step = bst t lim ls start 23 (pos + 1) handed om marks lm li fr w none (seen.add 16) := by
  show (if pos ≥ lim then _ else (match (Except.ok (t.getD pos 0 == 40, seen.add 16) : Except String (Bool × Seen)) with | .error why => _ | .ok (false, seen) => _ | .ok (true, seen) => _)) = _
  rw [if_neg (by omega), hc]
  rfl
theorem b_litNo1 (hc : pos < lim → t.getD pos 0 ≠ 42) : (bst t lim ls start 19 pos handed om marks lm li fr w none seen).step = bst t lim ls start 19 pos handed om marks lm li fr w (some false) (seen.add 16) := by
  show (if pos ≥ lim then _ else (match (Except.ok (t.getD pos 0 == 42, seen.add 16) : Except String (Bool × Seen)) with | .error why => _ | .ok (false, seen) => _ | .ok (true, seen) => _)) = _
  by_cases hl : pos < lim
  · rw [if_neg (by omega), show (t.getD pos 0 == 42) = false from beq_eq_false_iff_ne.mpr (hc hl)]; rfl
  · rw [if_pos (by omega)]; rfl
theorem b_litNo2 (hc : pos < lim → t.getD pos 0 ≠ 40) : (bst t lim ls start 21 pos handed om marks lm li fr w none seen).step = bst t lim ls start 21 pos handed om marks lm li fr w (some false) (seen.add 16) := by
  show (if pos ≥ lim then _ else (match (Except.ok (t.getD pos 0 == 40, seen.add 16) : Except String (Bool × Seen)) with | .error why => _ | .ok (false, seen) => _ | .ok (true, seen) => _)) = _
  by_cases hl : pos < lim
  · rw [if_neg (by omega), show (t.getD pos 0 == 40) = false from beq_eq_false_iff_ne.mpr (hc hl)]; rfl
  · rw [if_pos (by omega)]; rfl
theorem b_end (hl : pos = lim) : (bst t lim ls start 23 pos handed om marks lm li fr w none seen).step = bst t lim ls start 25 pos handed om marks lm li fr w none ((seen.add 6).add 48) := by
  show (match (Except.ok (pos == lim || (pos + 1 == lim && t.getD pos 0 == 10)) : Except String Bool) with
    | .error why => M.stick (bst t lim ls start 23 pos handed om marks lm li fr w none (seen.add 6)) why
    | .ok yes => if yes = true then bst t lim ls start 25 pos handed om marks lm li fr w none ((seen.add 6).add 48) else M.say (bst t lim ls start 23 pos handed om marks lm li fr w none ((seen.add 6).add 48)) false) = _
  rw [show (pos == lim) = true from beq_iff_eq.mpr hl]
  rfl
theorem b_succ : (bst t lim ls start 25 pos handed om marks lm li fr w none seen).step = bst t lim ls start 25 pos pos om marks lm li fr w (some true) (seen.add 1) := by
  show (if (om && ((false && pos != lim) || (false && pos == start))) = true then _ else _) = _
  rw [if_neg (by simp)]
  rfl
/-- how many decimals stand from p on, at most n -/
def decs (t : Array Nat) : Nat → Nat → Nat
  | 0, _ => 0
  | n + 1, p => if Unicode.isDecimal (t.getD p 0) then decs t n (p + 1) + 1 else 0
theorem b_accepts (c : Nat) (seen : Seen) : ∃ seen', accepts BC 11 c seen = .ok (Unicode.isDecimal c, seen') := by
  cases h : Unicode.isDecimal c with
  | true =>
    refine ⟨((seen.add 8).add 65), ?_⟩
    show (do if ← (Except.ok (Unicode.isDecimal c != false) : Except String Bool) then pure (true, (seen.add 8).add (55 + 10)) else inSet BC c 25 15 true ((seen.add 8).add (55 + 10))) = _
    rw [h]; rfl
  | false =>
    refine ⟨(((seen.add 8).add 65).add 0), ?_⟩
    show (do if ← (Except.ok (Unicode.isDecimal c != false) : Except String Bool) then pure (true, (seen.add 8).add (55 + 10)) else inSet BC c 25 15 true ((seen.add 8).add (55 + 10))) = _
    rw [h]; rfl
theorem b_run (n p f : Nat) (seen : Seen) : ∃ seen', Sre.run BC t 11 n p f seen = .ok (f + decs t n p, seen') := by
  induction n generalizing p f seen with
  | zero => exact ⟨seen, rfl⟩
  | succ n ih =>
    obtain ⟨s1, h1⟩ := b_accepts (t.getD p 0) seen
    unfold Sre.run
    rw [h1]
    cases h : Unicode.isDecimal (t.getD p 0) with
    | true =>
      obtain ⟨s2, h2⟩ := ih (p + 1) (f + 1) s1
      refine ⟨s2, ?_⟩
      show Sre.run BC t 11 n (p + 1) (f + 1) s1 = _
      rw [h2, decs, h, if_pos rfl]
      rw [show f + 1 + decs t n (p + 1) = f + (decs t n (p + 1) + 1) by omega]
    | false =>
      refine ⟨s1, ?_⟩
      show (Except.ok (f, s1) : Except String (Nat × Seen)) = _
      rw [decs, h, if_neg (by simp), Nat.add_zero]
theorem decs_le (n p : Nat) : decs t n p ≤ n := by
  induction n generalizing p with
  | zero => simp [decs]
  | succ n ih =>
    rw [decs]; split
    · have := ih (p + 1); omega
    · omega
theorem decs_at (n p j : Nat) (h : j < decs t n p) : Unicode.isDecimal (t.getD (p + j) 0) = true := by
  induction n generalizing p j with
  | zero => simp [decs] at h
  | succ n ih =>
    rw [decs] at h
    split at h
    · rename_i e
      cases j with
      | zero => exact e
      | succ j =>
        have := ih (p + 1) j (by omega)
        rwa [show p + 1 + j = p + (j + 1) by omega] at this
    · omega
theorem decs_stop (n p : Nat) (h : decs t n p < n) : Unicode.isDecimal (t.getD (p + decs t n p) 0) = false := by
  induction n generalizing p with
  | zero => omega
  | succ n ih =>
    rw [decs] at h ⊢
    split
    · rename_i e
      rw [if_pos e] at h
      have := ih (p + 1) (by omega)
      rwa [show p + 1 + decs t n (p + 1) = p + (decs t n (p + 1) + 1) by omega] at this
    · rename_i e
      simpa using e
/-- no decimal here -/
theorem b_rep0 (hl : lim ≤ 4294967295) (h : pos < lim → Unicode.isDecimal (t.getD pos 0) = false) : ∃ seen', (bst t lim ls start 7 pos handed om marks lm li fr w none seen).step = bst t lim ls start 7 pos handed om marks lm li fr w (some false) seen' := by
  by_cases hp : pos < lim
  · obtain ⟨s1, h1⟩ := b_run (t := t) (min 4294967295 (lim - pos)) pos 0 ((seen.add 24).add 13)
    refine ⟨s1, ?_⟩
    have hd : decs t (min 4294967295 (lim - pos)) pos = 0 := by
      rw [show min 4294967295 (lim - pos) = (lim - pos - 1) + 1 by omega, decs, if_neg (by rw [h hp]; exact Bool.false_ne_true)]
    rw [hd] at h1
    show (if ((1 : Nat) : Int) > (lim : Int) - (pos : Int) then _ else
      match Sre.run BC t 11 (min 4294967295 ((lim : Int) - (pos : Int)).toNat) pos 0 ((seen.add 24).add 13) with | .error why => _ | .ok (n, seen) => _) = _
    rw [if_neg (by omega), show ((lim : Int) - (pos : Int)).toNat = lim - pos by omega, h1]
    rfl
  · refine ⟨seen.add 24, ?_⟩
    show (if ((1 : Nat) : Int) > (lim : Int) - (pos : Int) then _ else _) = _
    rw [if_pos (by omega)]
    rfl
theorem b_rep {n : Nat} (hl : lim ≤ 4294967295) (hw : w < 1000) (hp : pos < lim) (hn : decs t (lim - pos) pos = n + 1) : ∃ seen', (bst t lim ls start 7 pos handed om marks 0 (-1) fr w none seen).step = bst t lim ls start 17 (pos + (n + 1)) (pos + (n + 1)) om marks 0 (-1) (fG (pos + (n + 1)) om (n + 1) :: fr) (w + 1) none seen' := by
  obtain ⟨s1, h1⟩ := b_run (t := t) (min 4294967295 (lim - pos)) pos 0 ((seen.add 24).add 13)
  refine ⟨s1, ?_⟩
  rw [show min 4294967295 (lim - pos) = lim - pos by omega, hn, Nat.zero_add] at h1
  show (if ((1 : Nat) : Int) > (lim : Int) - (pos : Int) then _ else
    match Sre.run BC t 11 (min 4294967295 ((lim : Int) - (pos : Int)).toNat) pos 0 ((seen.add 24).add 13) with | .error why => _ | .ok (n, seen) => _) = _
  rw [if_neg (by omega), show min 4294967295 ((lim : Int) - (pos : Int)).toNat = lim - pos by omega, h1]
  show (if n + 1 < 1 then _ else _) = _
  rw [if_neg (by omega)]
  show (if w + 1 + 0 > 16777216 then _ else _) = _
  rw [if_neg (by omega)]
  rfl
theorem b_back {p n : Nat} {hd pc : Nat} (hw : w < 1000) : (bst t lim ls start pc pos hd om marks lm li (fG p om (n + 2) :: fr) (w + 1) (some false) seen).step = bst t lim ls start 17 (p - 1) (p - 1) om marks 0 (-1) (fG (p - 1) om (n + 1) :: fr) (w + 1) none seen := by
  show (if ((n + 2 : Nat) : Int) - 1 < ((1 : Nat) : Int) then _ else _) = _
  rw [if_neg (by omega)]
  show (if w + 1 - (1 + 0) + 1 + 0 > 16777216 then _ else _) = _
  rw [if_neg (by omega)]
  have e : ((n + 2 : Nat) : Int) - 1 = ((n + 1 : Nat) : Int) := by omega
  show bst t lim ls start 17 (p - 1) (p - 1) om marks 0 (-1) ({ fG (p - 1) om (n + 1) with count := ((n + 2 : Nat) : Int) - 1 } :: fr) (w + 1 - (1 + 0) + 1 + 0) none seen = _
  rw [e]
  rfl
theorem b_back1 {p : Nat} {hd pc : Nat} : (bst t lim ls start pc pos hd om marks lm li (fG p om 1 :: fr) (w + 1) (some false) seen).step = bst t lim ls start 7 p hd om marks 0 (-1) fr w (some false) seen := rfl
theorem b_next {i : Nat} {om' : Bool} {pc hd : Nat} (hi : i < ls) : (bst t lim ls start pc pos hd om marks lm li [fS i om'] 1 (some false) seen).step = bst t lim ls (i + 1) 5 (i + 1) (i + 1) false marks (-1) (-1) [fS (i + 1) false] 1 none seen := by
  show (if i < ls then _ else _) = _
  rw [if_pos hi]
  rfl
theorem b_over {i : Nat} {om' : Bool} {pc hd : Nat} (hi : ¬ i < ls) : (bst t lim ls start pc pos hd om marks lm li [fS i om'] 1 (some false) seen).step = bst t lim ls start 5 i hd om' marks lm li [] 0 (some false) seen := by
  show (if i < ls then _ else _) = _
  rw [if_neg hi]
  rfl
theorem b_won {i p n : Nat} {om' : Bool} {pc hd : Nat} : ((bst t lim ls start pc pos hd om marks lm li [fG p om n, fS i om'] 2 (some true) seen).step).step = bst t lim ls start 5 i hd om' marks lm li [] 0 (some true) seen := rfl

theorem D42 : Unicode.isDecimal 42 = false := by decide +kernel
theorem D40 : Unicode.isDecimal 40 = false := by decide +kernel
theorem D44 : Unicode.isDecimal 44 = false := by decide +kernel
theorem D117 : Unicode.isDecimal 117 = false := by decide +kernel
theorem D_digit : ∀ d, d ≤ 9 → Unicode.isDecimal (48 + d) = true := by
  have : (List.range 10).all (fun d => Unicode.isDecimal (48 + d)) = true := by decide +kernel
  intro d hd
  exact List.all_eq_true.mp this d (List.mem_range.mpr (by omega))
theorem decs_before {n p e : Nat} (hp : p ≤ e) (h : Unicode.isDecimal (t.getD e 0) = false) : p + decs t n p ≤ e := by
  by_cases q : p + decs t n p ≤ e
  · exact q
  · have := decs_at (t := t) n p (e - p) (by omega)
    rw [show p + (e - p) = e by omega, h] at this
    cases this

/-- an attempt begins at i -/
def SI (t : Array Nat) (lim ls i : Nat) (om : Bool) (marks : Array (Option Nat)) (seen : Seen) : M := bst t lim ls i 5 i i om marks (-1) (-1) [fS i om] 1 none seen
/-- it has failed -/
def Fell (t : Array Nat) (lim ls i : Nat) (m : M) : Prop := ∃ pc pos hd om om' marks lm li seen, m = bst t lim ls i pc pos hd om marks lm li [fS i om'] 1 (some false) seen ∧ marks.size = 2
theorem back_falls {i n : Nat} (hl : lim ≤ 4294967295) (hdec : ∀ j, j < n → Unicode.isDecimal (t.getD (i + j) 0) = true) (hno : ∀ k, k + 1 < lim → t.getD k 0 ≠ 40) (hne : i + n ≠ lim - 2 ∨ lim < 2) (om om' : Bool) :
    ∀ (k : Nat) (marks : Array (Option Nat)) (hd : Nat) (seen : Seen), k + 1 ≤ n → marks.size = 2 → Comes (4 * (k + 1)) (bst t lim ls i 17 (i + (k + 1)) hd om marks 0 (-1) [fG (i + (k + 1)) om (k + 1), fS i om'] 2 none seen) (Fell t lim ls i) := by
  intro k
  induction k with
  | zero =>
    intro marks hd seen hk hm
    refine Comes.step b_mark1 ?_
    by_cases hc : i + 1 < lim ∧ t.getD (i + 1) 0 = 42
    · refine Comes.step (b_lit1 hc.1 hc.2) (Comes.step (b_litNo2 ?_) (Comes.step b_back1 (Comes.here ⟨_, _, _, _, _, _, _, _, _, rfl, by simpa using hm⟩)))
      intro hp
      have hn : n = 1 := by
        by_cases q : 1 < n
        · have := hdec 1 q
          rw [hc.2, D42] at this; cases this
        · omega
      subst hn
      exact hno _ (by omega)
    · refine Comes.mono (Comes.step (b_litNo1 fun hp e => hc ⟨hp, e⟩) (Comes.step b_back1 (Comes.here (N := 0) ⟨_, _, _, _, _, _, _, _, _, rfl, by simpa using hm⟩))) (by omega)
  | succ k ih =>
    intro marks hd seen hk hm
    have fin : ∀ pc pos hd lm li seen, Comes (4 * (k + 1) + 1) (bst t lim ls i pc pos hd om (marks.setIfInBounds 1 (some (i + (k + 1 + 1)))) lm li [fG (i + (k + 1 + 1)) om (k + 1 + 1), fS i om'] 2 (some false) seen) (Fell t lim ls i) := by
      intro pc pos hd lm li seen
      refine Comes.step (b_back (by omega)) ?_
      rw [show i + (k + 1 + 1) - 1 = i + (k + 1) by omega]
      exact ih _ _ _ (by omega) (by simpa using hm)
    refine Comes.step b_mark1 ?_
    by_cases hc : i + (k + 1 + 1) < lim ∧ t.getD (i + (k + 1 + 1)) 0 = 42
    · refine Comes.step (b_lit1 hc.1 hc.2) (Comes.step (b_litNo2 ?_) (fin _ _ _ _ _ _))
      intro hp
      have hn : n = k + 1 + 1 := by
        by_cases q : k + 1 + 1 < n
        · have := hdec _ q
          rw [hc.2, D42] at this; cases this
        · omega
      subst hn
      exact hno _ (by omega)
    · exact Comes.mono (N := 4 * (k + 1) + 1 + 1) (Comes.step (b_litNo1 fun hp e => hc ⟨hp, e⟩) (fin _ _ _ _ _ _)) (by have : Nat.mul 4 (k + 1) = 4 * (k + 1) := rfl; omega)
theorem start_falls {i : Nat} (hl : lim ≤ 4294967295) (hno : ∀ k, k + 1 < lim → t.getD k 0 ≠ 40) (hne : (i < lim → Unicode.isDecimal (t.getD i 0) = false) ∨ i + decs t (lim - i) i ≠ lim - 2 ∨ lim < 2) (hm : marks.size = 2) :
    Comes (4 * lim + 10) (SI t lim ls i om marks seen) (Fell t lim ls i) := by
  refine Comes.mono (Comes.step b_mark0 (N := 4 * lim + 5) ?_) (by omega)
  by_cases h0 : i < lim → Unicode.isDecimal (t.getD i 0) = false
  · obtain ⟨s', e⟩ := b_rep0 (t := t) (lim := lim) (ls := ls) (start := i) (pos := i) (handed := i) (w := 1) (om := om) (marks := marks.setIfInBounds 0 (some i)) (lm := 0) (li := -1) (fr := [fS i om]) (seen := seen.add 17) hl h0
    exact Comes.mono (Comes.step e (Comes.here (N := 0) ⟨_, _, _, _, _, _, _, _, _, rfl, by simpa using hm⟩)) (by omega)
  · have hi : i < lim := by
      by_cases q : i < lim
      · exact q
      · exact absurd (fun h => absurd h q) h0
    have hn : ∃ n, decs t (lim - i) i = n + 1 := by
      cases q : decs t (lim - i) i with
      | succ n => exact ⟨n, rfl⟩
      | zero =>
        exfalso
        apply h0
        intro _
        have := decs_stop (t := t) (lim - i) i (by omega)
        rwa [q, Nat.add_zero] at this
    obtain ⟨n, hn⟩ := hn
    have hd := decs_le (t := t) (lim - i) i
    obtain ⟨s', e⟩ := b_rep (t := t) (lim := lim) (ls := ls) (start := i) (pos := i) (handed := i) (w := 1) (om := om) (marks := marks.setIfInBounds 0 (some i)) (fr := [fS i om]) (seen := seen.add 17) hl (by omega) hi hn
    refine Comes.mono (Comes.step e (back_falls (n := n + 1) hl (fun j hj => decs_at (t := t) (lim - i) i j (by omega)) hno ?_ om om n _ _ _ (Nat.le_refl _) (by simpa using hm))) (by omega)
    rcases hne with h | h
    · exact absurd h h0
    · rwa [hn] at h
/-- the search has found it -/
structure Won (i e : Nat) (m : M) : Prop where
  out : m.outcome = some .matched
  start : m.start = i
  handed : m.handed = e + 2
  marks : m.marks = #[some i, some e]
  lastmark : m.lastmark = 1
  lastindex : m.lastindex = 1
theorem marks_two (hm : marks.size = 2) (i e : Nat) : (marks.setIfInBounds 0 (some i)).setIfInBounds 1 (some e) = #[some i, some e] := by
  obtain ⟨l⟩ := marks
  match l, hm with
  | [a, b], _ => rfl
theorem start_wins {i n : Nat} (hl : lim ≤ 4294967295) (hi : i < lim) (hn : decs t (lim - i) i = n + 1) (h1 : t.getD (i + (n + 1)) 0 = 42) (h2 : t.getD (i + (n + 1) + 1) 0 = 40) (h3 : i + (n + 1) + 2 = lim) (hm : marks.size = 2) :
    Comes 10 (SI t lim ls i om marks seen) (Won i (i + (n + 1))) := by
  refine Comes.step b_mark0 ?_
  obtain ⟨s', e⟩ := b_rep (t := t) (lim := lim) (ls := ls) (start := i) (pos := i) (handed := i) (w := 1) (om := om) (marks := marks.setIfInBounds 0 (some i)) (fr := [fS i om]) (seen := seen.add 17) hl (by omega) hi hn
  refine Comes.step e (Comes.step b_mark1 (Comes.step (b_lit1 (by omega) h1) (Comes.step (b_lit2 (by omega) h2) (Comes.step (b_end (by omega)) (Comes.step b_succ ?_)))))
  rw [marks_two hm]
  refine ⟨3, by omega, ?_⟩
  exact ⟨rfl, rfl, by show i + (n + 1) + 1 + 1 = _; omega, rfl, rfl, rfl⟩

theorem falls_on {i : Nat} {R : M → Prop} {N : Nat} (hl : lim ≤ 4294967295) (hno : ∀ k, k + 1 < lim → t.getD k 0 ≠ 40)
    (fin : ∀ om marks seen, marks.size = 2 → Comes N (SI t lim ls i om marks seen) R) :
    ∀ (c j : Nat) (om : Bool) (marks : Array (Option Nat)) (seen : Seen), j + c = i → i ≤ ls → marks.size = 2 →
      (∀ k, j ≤ k → k < i → (k < lim → Unicode.isDecimal (t.getD k 0) = false) ∨ k + decs t (lim - k) k ≠ lim - 2 ∨ lim < 2) →
      Comes (c * (4 * lim + 20) + N) (SI t lim ls j om marks seen) R := by
  intro c
  induction c with
  | zero =>
    intro j om marks seen hj hi hm h
    rw [show j = i by omega]
    exact Comes.mono (fin om marks seen hm) (by omega)
  | succ c ih =>
    intro j om marks seen hj hi hm h
    have h1 := start_falls (ls := ls) (om := om) (marks := marks) (seen := seen) hl hno (h j (Nat.le_refl _) (by omega)) hm
    refine Comes.mono (h1.then (N' := (c * (4 * lim + 20) + N) + 1) ?_) (by rw [Nat.add_mul]; omega)
    rintro m' ⟨pc, pos, hd, om1, om2, mk, lm, li, sn, rfl, hmk⟩
    refine Comes.step (b_next (by omega)) ?_
    exact ih (j + 1) false mk sn (by omega) hi hmk fun k hk hk' => h k (by omega) hk'

theorem search_start (h3 : 3 ≤ lim) : Sre.forSearch BC t 1 0 lim false = SI t lim (lim - 2) 0 true #[none, none] (({} : Seen).add 14) := by
  unfold Sre.forSearch
  show (if (decide (0 > lim) || decide (lim - 0 < 3)) = true then _ else _) = _
  rw [if_neg (by simp; omega)]
  show bst t lim (max 0 (lim - (3 - 1))) 0 5 0 0 true #[none, none] (-1) (-1) [fS 0 true] 1 none (({} : Seen).add 14) = _
  rw [show max 0 (lim - (3 - 1)) = lim - 2 by omega]
  rfl
theorem search_short (h3 : lim < 3) : ((Sre.forSearch BC t 1 0 lim false).step).outcome = some .failed := by
  unfold Sre.forSearch
  show ((if (decide (0 > lim) || decide (lim - 0 < 3)) = true then M.say (_ : M) false else _ : M).step).outcome = _
  rw [if_pos (by simp; omega)]
  rfl
/-- the search for a count ahead of a bracket: found -/
theorem search_found {i n : Nat} (hl : lim ≤ 4294967295) (hno : ∀ k, k + 1 < lim → t.getD k 0 ≠ 40) (hbef : ∀ k, k < i → k + decs t (lim - k) k ≠ lim - 2)
    (hn : decs t (lim - i) i = n + 1) (h1 : t.getD (i + (n + 1)) 0 = 42) (h2 : t.getD (i + (n + 1) + 1) 0 = 40) (h3 : i + (n + 1) + 2 = lim) :
    Comes (lim * (4 * lim + 20) + 10) (Sre.forSearch BC t 1 0 lim false) (Won i (i + (n + 1))) := by
  rw [search_start (by omega)]
  have := falls_on (ls := lim - 2) (i := i) (R := Won i (i + (n + 1))) (N := 10) hl hno (fun om marks seen hm => start_wins hl (by omega) hn h1 h2 h3 hm) i 0 true #[none, none] (({} : Seen).add 14) (by omega) (by omega) rfl fun k _ hk => .inr (.inl (hbef k hk))
  exact Comes.mono this (Nat.add_le_add_right (Nat.mul_le_mul_right _ (by omega)) _)
/-- not found -/
theorem search_lost (hl : lim ≤ 4294967295) (hno : ∀ k, k + 1 < lim → t.getD k 0 ≠ 40) (hbef : ∀ k, k ≤ lim - 2 → (k < lim → Unicode.isDecimal (t.getD k 0) = false) ∨ k + decs t (lim - k) k ≠ lim - 2 ∨ lim < 2) :
    Comes (lim * (4 * lim + 20) + (4 * lim + 20)) (Sre.forSearch BC t 1 0 lim false) (fun m => m.outcome = some .failed) := by
  by_cases h3 : lim < 3
  · exact ⟨1, by omega, search_short h3⟩
  · rw [search_start (by omega)]
    have := falls_on (ls := lim - 2) (i := lim - 2) (R := fun m => m.outcome = some .failed) (N := 4 * lim + 20) hl hno (fun om marks seen hm => by
      refine Comes.mono ((start_falls (ls := lim - 2) (om := om) (marks := marks) (seen := seen) hl hno (hbef _ (Nat.le_refl _)) hm).then (N' := 2) ?_) (by omega)
      rintro m' ⟨pc, pos, hd, om1, om2, mk, lm, li, sn, rfl, hmk⟩
      refine Comes.step (b_over (by omega)) ⟨1, Nat.le_refl _, rfl⟩) (lim - 2) 0 true #[none, none] (({} : Seen).add 14) (by omega) (Nat.le_refl _) rfl fun k _ hk => hbef k (by omega)
    exact Comes.mono this (Nat.add_le_add_right (Nat.mul_le_mul_right _ (by omega)) _)
end
end Mine
end

section
open PySem PySem.W PySem.Spec PySem.Calls PyProof.Rows PySem.Builtin.Re
set_option Elab.async false
set_option maxRecDepth 100000
set_option maxHeartbeats 8000000
namespace Mine
/-! facts of the built-in types re.Pattern and re.Match -/
theorem pa_pat : PlainAttrs "re.Pattern" :=
  ⟨⟨"object.__getattribute__", by rw [typeLookup_type, builtinLookup_eq_fast]; kernel_rfl, by decide +kernel⟩, by rw [typeLookup_type, builtinLookup_eq_fast]; kernel_rfl⟩
theorem pa_mat : PlainAttrs "re.Match" :=
  ⟨⟨"object.__getattribute__", by rw [typeLookup_type, builtinLookup_eq_fast]; kernel_rfl, by decide +kernel⟩, by rw [typeLookup_type, builtinLookup_eq_fast]; kernel_rfl⟩
theorem slot_match : Slot "re.Pattern" "match" "re.Pattern.match" :=
  .of (owner := "re.Pattern") (n := "match") (by rw [typeLookup_type, builtinLookup_eq_fast]; kernel_rfl) (by decide +kernel) (by decide +kernel) (by decide +kernel)
    (by first | exact .inl (by decide +kernel) | exact .inr (by decide +kernel)) (by rw [isSubtype_type]; kernel_rfl)
theorem type_match : typeOf (.builtin "re.Pattern.match") = pure (.type "method_descriptor") := by show builtinType _ = _; rw [builtinType_eq_fast]; kernel_rfl
theorem entry_match : entryFor table "re.Pattern.match" = some Builtin.«re.Pattern.match» := entryFor_of_tree (by kernel_rfl)
theorem slot_search : Slot "re.Pattern" "search" "re.Pattern.search" :=
  .of (owner := "re.Pattern") (n := "search") (by rw [typeLookup_type, builtinLookup_eq_fast]; kernel_rfl) (by decide +kernel) (by decide +kernel) (by decide +kernel)
    (by first | exact .inl (by decide +kernel) | exact .inr (by decide +kernel)) (by rw [isSubtype_type]; kernel_rfl)
theorem type_search : typeOf (.builtin "re.Pattern.search") = pure (.type "method_descriptor") := by show builtinType _ = _; rw [builtinType_eq_fast]; kernel_rfl
theorem entry_search : entryFor table "re.Pattern.search" = some Builtin.«re.Pattern.search» := entryFor_of_tree (by kernel_rfl)
theorem slot_group : Slot "re.Match" "group" "re.Match.group" :=
  .of (owner := "re.Match") (n := "group") (by rw [typeLookup_type, builtinLookup_eq_fast]; kernel_rfl) (by decide +kernel) (by decide +kernel) (by decide +kernel)
    (by first | exact .inl (by decide +kernel) | exact .inr (by decide +kernel)) (by rw [isSubtype_type]; kernel_rfl)
theorem type_group : typeOf (.builtin "re.Match.group") = pure (.type "method_descriptor") := by show builtinType _ = _; rw [builtinType_eq_fast]; kernel_rfl
theorem entry_group : entryFor table "re.Match.group" = some Builtin.«re.Match.group» := entryFor_of_tree (by kernel_rfl)
theorem slot_start : Slot "re.Match" "start" "re.Match.start" :=
  .of (owner := "re.Match") (n := "start") (by rw [typeLookup_type, builtinLookup_eq_fast]; kernel_rfl) (by decide +kernel) (by decide +kernel) (by decide +kernel)
    (by first | exact .inl (by decide +kernel) | exact .inr (by decide +kernel)) (by rw [isSubtype_type]; kernel_rfl)
theorem type_start : typeOf (.builtin "re.Match.start") = pure (.type "method_descriptor") := by show builtinType _ = _; rw [builtinType_eq_fast]; kernel_rfl
theorem entry_start : entryFor table "re.Match.start" = some Builtin.«re.Match.start» := entryFor_of_tree (by kernel_rfl)
theorem nobool_mat : typeLookup (.type "re.Match") "__bool__" = pure none := by rw [typeLookup_type, builtinLookup_eq_fast]; kernel_rfl
theorem nolen_mat : typeLookup (.type "re.Match") "__len__" = pure none := by rw [typeLookup_type, builtinLookup_eq_fast]; kernel_rfl
theorem args_match (a b : Value) : argsOk "re.Pattern.match" ⟨[a, b], []⟩ := by
  unfold argsOk
  rfl
theorem args_search (a b c d : Value) : argsOk "re.Pattern.search" ⟨[a, b, c, d], []⟩ := by
  unfold argsOk
  rfl
theorem args_group (a b : Value) : argsOk "re.Match.group" ⟨[a, b], []⟩ := by
  unfold argsOk
  rfl
theorem args_start (a b : Value) : argsOk "re.Match.start" ⟨[a, b], []⟩ := by
  unfold argsOk
  rfl

/-- a compiled pattern on the heap -/
structure Pat (h : Heap) (a c d : Addr) (code : Array Nat) (ng : Nat) : Prop where
  obj : ∃ p fl ig, h.get? a = some ({ cls := .type "re.Pattern", data := .fields #[p, fl, .int ng 0, .ref d, ig, .ref c, .int 0 0] } : Obj)
  cd : ∃ vs n, h.get? c = some ({ cls := .type "tuple", data := .seq vs n } : Obj) ∧ vs.map reRawOf = code.map fun (k : Nat) => (k : Int)
theorem Pat.typeIs {s : Shared} {a c d : Addr} {code : Array Nat} {ng : Nat} (P : Pat s.heap a c d code ng) : s.TypeIs (.ref a) "re.Pattern" := by
  obtain ⟨p, fl, ig, h⟩ := P.obj
  exact ⟨_, h, rfl⟩
theorem Pat.keeps {h h' : Heap} {a c d : Addr} {code : Array Nat} {ng : Nat} (P : Pat h a c d code ng) (k : ∀ b o, h.get? b = some o → h'.get? b = some o) : Pat h' a c d code ng := by
  obtain ⟨p, fl, ig, ho⟩ := P.obj
  obtain ⟨vs, n, hc, e⟩ := P.cd
  exact ⟨⟨p, fl, ig, k _ _ ho⟩, ⟨vs, n, k _ _ hc, e⟩⟩

section
variable {prog : Program} {w : World} {A : Around} {E : Value → Shared → Prop} {s : Shared}

theorem rawItems {c : Addr} {vs : Array Value} {n : Nat} {Q : Array Int → Shared → Prop} {M : Model} (h : ∃ o, s.heap.get? c = some o ∧ o.data = .seq vs n) (hq : Q (vs.map reRawOf) s) : wpAny M A (reRawItems (.ref c)) Q E s := by
  obtain ⟨o, ho, hd⟩ := h
  unfold reRawItems
  exact wpAny_bind (wpAny_seqItems ho hd (wpAny_pure hq))
theorem toNat_code (code : Array Nat) : (code.map fun (k : Nat) => (k : Int)).map (·.toNat) = code := by
  rw [Array.map_map]
  have : ((fun (i : Int) => i.toNat) ∘ fun (k : Nat) => (k : Int)) = id := funext fun k => by simp
  rw [this, Array.map_id]

theorem search_call {a c d : Addr} {code : Array Nat} {ng : Nat} (P : Pat s.heap a c d code ng) {x : Str} {tx t0 tk : Tok} {k : Int} {Q : Value → Shared → Prop} (h0 : 0 ≤ k) (hk : k ≤ x.length) (hx : x.length ≤ 2 ^ 24)
    (h : wpAny (model prog w) A.in1 (reAnswer ⟨.ref a, .str x tx, code, x.cps, 0, ng, 0, k.toNat⟩ (Sre.forSearch code x.cps ng 0 k.toNat false)) (fun fin s' => ∃ v, fin = .done (.ret v) ∧ Q v s') E s) :
    wpAny (model prog w) A (call (.builtin "re.Pattern.search") [.ref a, .str x tx, .int 0 t0, .int k tk]) Q E s := by
  refine wpAny_call_entry slot_search P.typeIs entry_search ?_ (args_search _ _ _ _)
  unfold Builtin.«re.Pattern.search» reTarget
  obtain ⟨p, fl, ig, ho⟩ := P.obj
  obtain ⟨vs, n, hc, e⟩ := P.cd
  refine wpAny_bind ?_
  show wpAny _ _ (do
    let [some string, pos?, lim?] ← reNamed "re.Pattern.search" "search" ["string", "pos", "endpos"] 1 [.str x tx, .int 0 t0, .int k tk] [] | unsupported "internal:re:named"
    _) _ _ _
  refine wpAny_bind (m := reNamed _ _ _ _ _ _) (wpAny_of_eq (a := [some (.str x tx), some (.int 0 t0), some (.int k tk)]) rfl ?_)
  dsimp only
  refine wpAny_bind (m := reSsize (.int 0 t0)) ?_
  unfold reSsize
  refine wpAny_bind (m := asIndex _) (wpAny_of_eq (a := 0) rfl ?_)
  refine wpAny_of_eq (a := (0 : Int)) (by rfl) ?_
  refine wpAny_bind (m := reSsize (.int k tk)) ?_
  unfold reSsize
  refine wpAny_bind (m := asIndex _) (wpAny_of_eq (a := k) rfl ?_)
  dsimp only
  rw [if_neg (by simp; omega)]
  refine wpAny_pure ?_
  refine wpAny_bind (wpAny_fieldsOf ho rfl ?_)
  refine wpAny_bind (m := reTextOf _) (wpAny_of_eq (a := (x.cps, 0)) rfl ?_)
  show wpAny _ _ (reNoCollectionInside (.str x tx) 0 >>= fun _ => reRawItems (.ref c) >>= fun l => pure (_ : ReTarget)) _ _ _
  refine wpAny_bind (m := reNoCollectionInside _ _) (wpAny_of_eq (a := ()) rfl ?_)
  refine wpAny_bind (rawItems ⟨_, hc, rfl⟩ (wpAny_pure ?_))
  rw [e, toNat_code]
  have e1 : min k.toNat x.cps.size = k.toNat := Nat.min_eq_left (by have : (x.cps.size : Int) = x.length := rfl; omega)
  show wpAny _ _ (reAnswer ⟨.ref a, .str x tx, code, x.cps, 0, (ng : Int).toNat, min (0 : Int).toNat x.cps.size, min k.toNat x.cps.size⟩ (Sre.forSearch code x.cps (ng : Int).toNat (min (0 : Int).toNat x.cps.size) (min k.toNat x.cps.size) false)) _ _ _
  rw [e1]
  have e2 : min (0 : Int).toNat x.cps.size = 0 := Nat.min_eq_left (Nat.zero_le _)
  rw [e2]
  exact h
theorem match_call {a c d : Addr} {code : Array Nat} {ng : Nat} (P : Pat s.heap a c d code ng) {x : Str} {tx : Tok} {Q : Value → Shared → Prop} (hx : x.length ≤ 2 ^ 24)
    (h : wpAny (model prog w) A.in1 (reAnswer ⟨.ref a, .str x tx, code, x.cps, 0, ng, 0, x.cps.size⟩ (Sre.forMatch code x.cps ng 0 x.cps.size false false)) (fun fin s' => ∃ v, fin = .done (.ret v) ∧ Q v s') E s) :
    wpAny (model prog w) A (call (.builtin "re.Pattern.match") [.ref a, .str x tx]) Q E s := by
  refine wpAny_call_entry slot_match P.typeIs entry_match ?_ (args_match _ _)
  unfold Builtin.«re.Pattern.match» reTarget
  obtain ⟨p, fl, ig, ho⟩ := P.obj
  obtain ⟨vs, n, hc, e⟩ := P.cd
  refine wpAny_bind ?_
  show wpAny _ _ (do
    let [some string, pos?, lim?] ← reNamed "re.Pattern.match" "match" ["string", "pos", "endpos"] 1 [.str x tx] [] | unsupported "internal:re:named"
    _) _ _ _
  refine wpAny_bind (m := reNamed _ _ _ _ _ _) (wpAny_of_eq (a := [some (.str x tx), none, none]) rfl ?_)
  dsimp only
  refine wpAny_bind (wpAny_pure ?_)
  refine wpAny_bind (wpAny_pure ?_)
  refine wpAny_bind (wpAny_fieldsOf ho rfl ?_)
  refine wpAny_bind (m := reTextOf _) (wpAny_of_eq (a := (x.cps, 0)) rfl ?_)
  show wpAny _ _ (reNoCollectionInside (.str x tx) 0 >>= fun _ => reRawItems (.ref c) >>= fun l => pure (_ : ReTarget)) _ _ _
  refine wpAny_bind (m := reNoCollectionInside _ _) (wpAny_of_eq (a := ()) rfl ?_)
  refine wpAny_bind (rawItems ⟨_, hc, rfl⟩ (wpAny_pure ?_))
  rw [e, toNat_code]
  have e1 : min (2 ^ 63 - 1 : Int).toNat x.cps.size = x.cps.size := Nat.min_eq_right (by have : x.cps.size = x.length := rfl; omega)
  show wpAny _ _ (reAnswer ⟨.ref a, .str x tx, code, x.cps, 0, (ng : Int).toNat, min (0 : Int).toNat x.cps.size, min (2 ^ 63 - 1 : Int).toNat x.cps.size⟩ (Sre.forMatch code x.cps (ng : Int).toNat (min (0 : Int).toNat x.cps.size) (min (2 ^ 63 - 1 : Int).toNat x.cps.size) false false)) _ _ _
  rw [e1]
  have e2 : min (0 : Int).toNat x.cps.size = 0 := Nat.min_eq_left (Nat.zero_le _)
  rw [e2]
  exact h

theorem drive {M : Model} {Q : Sre.M → Shared → Prop} : ∀ (turns : Nat) (m : Sre.M) (k : Nat), k ≤ 4 * turns → 1 ≤ turns → (iter k m).outcome.isSome = true → Q (iter k m) s → wpAny M A (reDrive turns m) Q E s := by
  intro turns
  induction turns with
  | zero => intro m k _ h; omega
  | succ t ih =>
    intro m k hk _ ho hq
    show wpAny M A (if (m.runFor reTurnSteps).outcome.isSome = true then pure (m.runFor reTurnSteps) else do rule "sre.turn"; reDrive t (m.runFor reTurnSteps)) Q E s
    rw [show m.runFor reTurnSteps = iter 4 m from runFor_iter 4 m]
    by_cases h4 : (iter 4 m).outcome.isSome = true
    · rw [if_pos h4]
      refine wpAny_pure ?_
      have : iter 4 m = iter k m := by
        by_cases hk4 : k ≤ 4
        · have e : iter 4 m = iter (4 - k) (iter k m) := by rw [← iter_add, show k + (4 - k) = 4 by omega]
          rw [e, iter_out ho]
        · have e : iter k m = iter (k - 4) (iter 4 m) := by rw [← iter_add, show 4 + (k - 4) = k by omega]
          rw [e, iter_out h4]
      rw [this]; exact hq
    · rw [if_neg h4]
      have hk4 : ¬ k ≤ 4 := fun hk4 => h4 (by
        have e : iter 4 m = iter (4 - k) (iter k m) := by rw [← iter_add, show k + (4 - k) = 4 by omega]
        rw [e, iter_out ho]; exact ho)
      have e : iter k m = iter (k - 4) (iter 4 m) := by rw [← iter_add, show 4 + (k - 4) = k by omega]
      rw [e] at ho hq
      exact wpAny_bind (wpAny_rule (ih (iter 4 m) (k - 4) (by omega) (by omega) ho hq))

theorem for_rules {M : Model} {f : Nat → PUnit → Sem (ForInStep PUnit)} {Q : PUnit → Shared → Prop} (hf : ∀ i (Q' : ForInStep PUnit → Shared → Prop), Q' (.yield ⟨⟩) s → wpAny M A (f i ⟨⟩) Q' E s) (h : Q ⟨⟩ s) : ∀ l : List Nat, wpAny M A (forIn l PUnit.unit f) Q E s
  | [] => by rw [List.forIn_nil]; exact wpAny_pure h
  | i :: r => by
    rw [List.forIn_cons]
    exact wpAny_bind (hf i _ (by exact for_rules hf h r))

theorem to_end {M : Model} {m : Sre.M} {N : Nat} {R : Sre.M → Prop} {Q : Option Sre.M → Shared → Prop} (hN : N ≤ 2 ^ 66) (hc : Comes N m R) (hr : ∀ m', R m' → m'.outcome.isSome = true)
    (hq : ∀ m', R m' → wpAny M A (match m'.outcome with | some .matched => pure (some m') | some .failed => pure none | some (.stuck why) => unsupported s!"_sre:{why}" | none => unsupported "internal:sre:no-outcome") Q E s) : wpAny M A (reRunToEnd m) Q E s := by
  obtain ⟨k, hk, hR⟩ := hc
  unfold reRunToEnd
  refine wpAny_bind (drive (2 ^ 64) m k (by omega) (by decide) (hr _ hR) ?_)
  refine wpAny_bind (for_rules (fun i Q' hq' => ?_) (hq _ hR) _)
  split
  · exact wpAny_bind (wpAny_rule (wpAny_pure hq'))
  · exact wpAny_pure hq'

theorem answer_none {M : Model} {t : ReTarget} {m : Sre.M} {N : Nat} {Q : Fin → Shared → Prop} (hN : N ≤ 2 ^ 66) (hc : Comes N m fun m => m.outcome = some .failed) (h : Q (.done (.ret .none)) s) : wpAny M A (reAnswer t m) Q E s := by
  unfold reAnswer
  refine wpAny_bind (to_end hN hc (fun m' e => by rw [e]; rfl) fun m' e => ?_)
  rw [e]
  exact wpAny_pure (wpAny_pure h)

def spansOf (groups : Nat) (m : Sre.M) : List Value := (List.range groups).flatMap fun g =>
    match if ((2 * g + 1 : Nat) : Int) ≤ m.lastmark then (m.marks.getD (2 * g) none, m.marks.getD (2 * g + 1) none) else (none, none) with
    | (some b, some e) => [rawInt b, rawInt e]
    | _ => [rawInt (-1), rawInt (-1)]
def wrongOf (groups : Nat) (m : Sre.M) : Bool := (List.range groups).any (fun g => match m.marks.getD (2 * g) none, m.marks.getD (2 * g + 1) none with | some b, some e => ((2 * g + 1 : Nat) : Int) ≤ m.lastmark && e < b | _, _ => false)
structure Found (groups st hd : Nat) (li : Int) (sp : List Int) (m : Sre.M) : Prop where
  out : m.outcome = some .matched
  start : m.start = st
  handed : m.handed = hd
  lastindex : m.lastindex = li
  spans : spansOf groups m = sp.map rawInt
  right : wrongOf groups m = false
theorem Won.found {i e : Nat} {m : Sre.M} (h : Won i e m) (hie : i ≤ e) : Found 1 i (e + 2) 1 [i, e] m := by
  refine ⟨h.out, h.start, h.handed, h.lastindex, ?_, ?_⟩
  · unfold spansOf
    rw [h.marks, h.lastmark]
    rfl
  · unfold wrongOf
    rw [h.marks, h.lastmark]
    show (((decide (((2 * 0 + 1 : Nat) : Int) ≤ 1) && decide (e < i))) || false) = false
    rw [decide_eq_false (by omega : ¬ e < i)]; simp

abbrev spanObj (st hd : Nat) (sp : List Int) : Obj := { cls := .type "tuple", data := .seq (rawInt st :: rawInt hd :: sp.map rawInt).toArray }
abbrev matObj (x : Str) (tx : Tok) (pat : Addr) (pos lim : Nat) (li : Int) (sp : Addr) : Obj := { cls := .type "re.Match", data := .fields #[.str x tx, .ref pat, rawInt pos, rawInt lim, rawInt li, .ref sp] }

theorem answer_some {M : Model} {h₀ : Heap} {L : Addr} {mm : Str → Option Value} {news : List (Addr × Obj)} {pat : Addr} {x : Str} {tx : Tok} {code text : Array Nat} {kind groups pos lim : Nat} {m : Sre.M} {N st hd : Nat} {li : Int} {sp : List Int} {Q : Fin → Shared → Prop}
    (F : Fr h₀ L s.heap mm) (Nw : News h₀ L s.heap news) (hN : N ≤ 2 ^ 66) (hg : sp.length ≤ 100) (hc : Comes N m (Found groups st hd li sp))
    (h : ∀ a₁ a₂ h', Fr h₀ L h' mm → News h₀ L h' ((a₂, matObj x tx pat pos lim li a₁) :: (a₁, spanObj st hd sp) :: news) → s.heap.objs.size ≤ a₁ → a₁ < a₂ → Q (.done (.ret (.ref a₂))) { s with heap := h' }) :
    wpAny M A (reAnswer ⟨.ref pat, .str x tx, code, text, kind, groups, pos, lim⟩ m) Q E s := by
  unfold reAnswer
  refine wpAny_bind (to_end hN hc (fun m' e => by rw [e.out]; rfl) fun m' e => ?_)
  rw [e.out]
  refine wpAny_pure ?_
  refine wpAny_bind ?_
  unfold reNewMatch
  show wpAny _ _ (if wrongOf groups m' = true then _ else _) _ _ _
  rw [e.right, if_neg Bool.false_ne_true, e.lastindex]
  refine wpAny_bind (m := newTuple (rawInt m'.start :: rawInt m'.handed :: spansOf groups m')) ?_
  rw [e.start, e.handed, e.spans]
  refine wpAny_newObj_type ?_ (by show (rawInt (st : Int) :: rawInt (hd : Int) :: sp.map rawInt).toArray.size ≤ sizeLine; simp only [List.size_toArray, List.length_cons, List.length_map]; unfold sizeLine; omega)
  refine wpAny_newObj_type ?_ (by show (6 : Nat) ≤ _; unfold sizeLine; omega)
  have F₁ := F.push (spanObj st hd sp)
  have N₁ := Nw.push F (spanObj st hd sp)
  refine wpAny_pure (h s.heap.objs.size _ _ (F₁.push (matObj x tx pat pos lim li s.heap.objs.size)) (N₁.push F₁ (matObj x tx pat pos lim li s.heap.objs.size)) (Nat.le_refl _) ?_)
  show s.heap.objs.size < (s.heap.push _).objs.size
  simp [Heap.push]
theorem raw_back (l : List Int) : (l.map rawInt).toArray.map reRawOf = l.toArray := by
  rw [List.map_toArray, List.map_map]
  have : (reRawOf ∘ rawInt) = id := rfl
  rw [this, List.map_id]

/-- a match object on the heap, and what its pattern's names tell -/
structure Mat (prog : Program) (w : World) (h : Heap) (a : Addr) (x : Str) (spans : List Int) (names : Str → Option Value) : Prop where
  obj : ∃ tx pat pos lim li sp n, h.get? a = some (matObj x tx pat pos lim li sp) ∧ h.get? sp = some ({ cls := .type "tuple", data := .seq (spans.map rawInt).toArray n } : Obj) ∧
    ∃ p fl ng ig c k d, h.get? pat = some ({ cls := .type "re.Pattern", data := .fields #[p, fl, ng, .ref d, ig, c, k] } : Obj) ∧ h.MapOf (strKind prog w) d names
theorem Mat.typeIs {a : Addr} {x : Str} {spans : List Int} {names : Str → Option Value} (P : Mat prog w s.heap a x spans names) : s.TypeIs (.ref a) "re.Match" := by
  obtain ⟨tx, pat, pos, lim, li, sp, n, h, _⟩ := P.obj
  exact ⟨_, h, rfl⟩
theorem group_no {a : Addr} {x : Str} {spans : List Int} {names : Str → Option Value} (P : Mat prog w s.heap a x spans names) {nm : Str} {t : Tok} {g : Nat} {u : Tok} {α : Type} {k : ReFound → Nat → Sem α} {Q : α → Shared → Prop}
    (hn : names nm = some (.int g u)) (hg : 2 * g + 1 < spans.length)
    (h : ∀ fs tx, fs.getD 0 .none = .str x tx → wpAny (model prog w) A (k ⟨fs, spans.toArray⟩ g) Q E { s with toks := s.toks + 1 }) :
    wpAny (model prog w) A (do let x ← reFound (.ref a); let g ← reGroupNumber x (.str nm t); k x g) Q E s := by
  obtain ⟨tx, pat, pos, lim, li, sp, n, ho, hs, p, fl, ng, ig, c, k, d, hp, hm⟩ := P.obj
  refine wpAny_bind ?_
  unfold reFound
  refine wpAny_bind (wpAny_fieldsOf ho rfl ?_)
  refine wpAny_bind (m := reRawItems (.ref sp)) (rawItems ⟨_, hs, rfl⟩ (wpAny_pure ?_))
  rw [raw_back]
  refine wpAny_bind ?_
  unfold reGroupNumber
  refine wpAny_bind (m := asInt? (.str nm t)) (wpAny_of_eq (a := none) rfl ?_)
  dsimp only
  rw [if_neg (by simp)]
  refine wpAny_bind (wpAny_specialOf (v := .str nm t) (T := "str") rfl PySem.W.KIN.str_idx ?_)
  rw [if_neg (by simp)]
  refine wpAny_bind (m := fieldsOf (.ref pat)) (wpAny_fieldsOf hp rfl ?_)
  show wpAny _ _ (dictGet d (.str nm t) >>= _) _ _ _
  refine wpAny_bind (wpAny_dictGet_of (strKind_is prog w nm t) hm ?_)
  rw [hn]
  refine wpAny_bind (m := asInt? (.int g u)) (wpAny_of_eq (a := some (g : Int)) rfl ?_)
  refine wpAny_bind (wpAny_pure ?_)
  show wpAny _ _ (if (decide ((g : Int) < 0) || decide (2 * (g : Int) ≥ ((spans.toArray.size : Nat) : Int))) = true then _ else _) _ _ _
  rw [if_neg (by simp; omega)]
  exact wpAny_pure (h _ tx rfl)
theorem group_call {a : Addr} {x : Str} {spans : List Int} {names : Str → Option Value} (P : Mat prog w s.heap a x spans names) {nm : Str} {t : Tok} {g : Nat} {u : Tok} {b e : Nat} {Q : Value → Shared → Prop}
    (hn : names nm = some (.int g u)) (hb : spans[2 * g]? = some (b : Int)) (he : spans[2 * g + 1]? = some (e : Int)) (hx : x.length ≤ 2 ^ 24)
    (h : ∀ tk tk', Q (.str ⟨x.cps.extract b e⟩ tk) { s with toks := tk' }) :
    wpAny (model prog w) A (call (.builtin "re.Match.group") [.ref a, .str nm t]) Q E s := by
  have hg : 2 * g + 1 < spans.length := by
    by_cases q : 2 * g + 1 < spans.length
    · exact q
    · rw [List.getElem?_eq_none (by omega)] at he; cases he
  refine wpAny_call_entry slot_group P.typeIs entry_group ?_ (args_group _ _)
  unfold Builtin.«re.Match.group»
  refine wpAny_bind (m := noKeywords _ _) (wpAny_pure ?_)
  dsimp only
  refine group_no P hn hg ?_
  · intro fs tx hf
    refine wpAny_bind ?_
    unfold reGroupText
    have e1 : spans.toArray.getD (2 * g) (-1) = (b : Int) := by simp [Array.getD_eq_getD_getElem?, hb]
    have e2 : spans.toArray.getD (2 * g + 1) (-1) = (e : Int) := by simp [Array.getD_eq_getD_getElem?, he]
    show wpAny _ _ (if (decide (spans.toArray.getD (2 * g) (-1) < 0) || decide (spans.toArray.getD (2 * g + 1) (-1) < 0)) = true then _ else _) _ _ _
    rw [e1, e2, if_neg (by simp), hf]
    refine wpAny_bind (m := reTextOf _) (wpAny_of_eq (a := (x.cps, 0)) rfl ?_)
    show wpAny _ _ (mkStr ⟨x.cps.extract (b : Int).toNat (e : Int).toNat⟩) _ _ _
    refine wpAny_mkStr (wpAny_pure ⟨_, rfl, h _ _⟩) ?_
    show (x.cps.extract (b : Int).toNat (e : Int).toNat).size ≤ _
    have : x.cps.size = x.length := rfl
    simp only [Array.size_extract]
    unfold sizeLine
    omega
theorem start_call {a : Addr} {x : Str} {spans : List Int} {names : Str → Option Value} (P : Mat prog w s.heap a x spans names) {nm : Str} {t : Tok} {g : Nat} {u : Tok} {b : Int} {Q : Value → Shared → Prop}
    (hn : names nm = some (.int g u)) (hg : 2 * g + 1 < spans.length) (hb : spans[2 * g]? = some b)
    (h : ∀ tk tk', Q (.int b tk) { s with toks := tk' }) :
    wpAny (model prog w) A (call (.builtin "re.Match.start") [.ref a, .str nm t]) Q E s := by
  refine wpAny_call_entry slot_start P.typeIs entry_start ?_ (args_start _ _)
  unfold Builtin.«re.Match.start» reOneGroup
  refine wpAny_bind ?_
  refine wpAny_bind (m := selfAndSome _ _ _ _ _) (wpAny_of_eq (a := (.ref a, [.str nm t])) rfl ?_)
  dsimp only
  refine group_no P hn hg ?_
  · intro fs tx hf
    have e1 : spans.toArray.getD (2 * g) (-1) = b := by simp [Array.getD_eq_getD_getElem?, hb]
    refine wpAny_pure ?_
    show wpAny _ _ (retInt (spans.toArray.getD (2 * g) (-1))) _ _ _
    rw [e1]
    exact wpAny_bind (wpAny_mkInt (wpAny_pure ⟨_, rfl, h _ _⟩))

theorem truthy_match {a : Addr} {x : Str} {spans : List Int} {names : Str → Option Value} (P : Mat prog w s.heap a x spans names) {Q : Bool → Shared → Prop} (h : Q true s) : wpAny (model prog w) A (truthy (.ref a)) Q E s := by
  unfold truthy
  refine wpAny_bind (m := callSpecial? (.ref a) "__bool__") ?_
  · unfold callSpecial?
    refine wpAny_bind (wpAny_specialOf P.typeIs nobool_mat ?_)
    refine wpAny_pure ?_
    refine wpAny_bind (wpAny_specialOf P.typeIs nolen_mat ?_)
    exact wpAny_pure h
theorem method_pat {a c d : Addr} {code : Array Nat} {ng : Nat} (P : Pat s.heap a c d code ng) {nm : Str} {id : String} {pl : Sem Bool} {Q : Value × List Value → Shared → Prop}
    (slot : Slot "re.Pattern" nm id) (ty : typeOf (.builtin id) = pure (.type "method_descriptor")) (h : Q (.builtin id, [.ref a]) s) : wpAny (model prog w) A (getMethod (.ref a) nm pl) Q E s :=
  getMethod_builtin P.typeIs pa_pat slot ty (fun b e => by cases e; obtain ⟨p, fl, ig, ho⟩ := P.obj; exact ⟨_, ho, rfl⟩) h
theorem method_mat {a : Addr} {x : Str} {spans : List Int} {names : Str → Option Value} (P : Mat prog w s.heap a x spans names) {nm : Str} {id : String} {pl : Sem Bool} {Q : Value × List Value → Shared → Prop}
    (slot : Slot "re.Match" nm id) (ty : typeOf (.builtin id) = pure (.type "method_descriptor")) (h : Q (.builtin id, [.ref a]) s) : wpAny (model prog w) A (getMethod (.ref a) nm pl) Q E s :=
  getMethod_builtin P.typeIs pa_mat slot ty (fun b e => by cases e; obtain ⟨tx, pat, pos, lim, li, sp, n, ho, _⟩ := P.obj; exact ⟨_, ho, rfl⟩) h
end
end Mine
end

section
open PySem PySem.W PySem.Spec PySem.Calls PyProof.Rows
set_option Elab.async false
set_option maxRecDepth 100000
set_option maxHeartbeats 8000000
namespace Mine
local macro_rules | `(tactic| walk_at "pad C1 0") => `(tactic| fail)
/-- keep the written part at hand -/
theorem kept_part (h : hd.heap_39 = hd.heap_39 → PySem.Challenge.rw_fc0017_01 = PySem.Challenge.rw_fc0017_01) : True := by
  revert h
  k_fill
  w_top off
  k_with_none
  intro _; trivial
local macro_rules | `(tactic| walk_at "my enter") => `(tactic| (refine' code_def ?k1 ?k2 ?k3 ?k4 ?k5 ?kA ?kF ?kK ?k6 ?k7 ?k8 ?k9 ?kB ?_ ?c2 ?c3 ?c4 ?c5; (case kA => exact rfl); (case kF => exact rfl); (case kK => assumption); (case k1 => k_asm); (case k2 => k_asm); (case k3 => k_asm); (case k4 => k_asm); (case k5 => k_asm); (case k6 => k_is); (case k7 => k_is); (case k8 => ktr_room); (case k9 => exact BindsTo.of_eq rfl); (case c5 => decide); (case kB => exact locs rfl); (case c2 => exact rfl); (case c3 => exact rfl); (case c4 => exact rfl); k_whole; intro g' L' h' FG' F' N' B' X' T'; (try dsimp only); (try k_lift B'); (try k_fold)))

/-- what a call has made -/
def Fresh (news news' : Led) (p : Addr × Obj) : Prop := p ∈ news' ∧ ∀ q ∈ news, q.1 ≠ p.1
structure Grown (news news' : Led) : Prop where
  sub : ∀ p ∈ news, p ∈ news'
  off : ∀ p ∈ news', p ∈ news ∨ ∀ q ∈ news, q.1 ≠ p.1
theorem Grown.refl (news : Led) : Grown news news := ⟨fun _ h => h, fun _ h => .inl h⟩
theorem Grown.trans {a b c : Led} (h : Grown a b) (k : Grown b c) : Grown a c :=
  ⟨fun p hp => k.sub p (h.sub p hp), fun p hp => by
    rcases k.off p hp with q | q
    · exact h.off p q
    · exact .inr fun r hr => q r (h.sub r hr)⟩
theorem Grown.cons {a b : Led} {d : Addr} {o : Obj} (h : Grown a b) (k : ∀ p ∈ b, p.1 ≠ d) : Grown a ((d, o) :: b) :=
  ⟨fun p hp => .tail _ (h.sub p hp), fun p hp => by
    rcases List.mem_cons.mp hp with e | hp
    · subst e
      exact .inr fun r hr => k r (h.sub r hr)
    · exact h.off p hp⟩
theorem ne_of_allLt {d : Addr} {b : Led} (k : AllLt d b) : ∀ p ∈ b, p.1 ≠ d := fun p hp => Nat.ne_of_lt (ktn_ltOf k p hp)
theorem ne_of_off1 {d : Addr} : ∀ {b : Led}, LCg.Off1 d b → ∀ p ∈ b, p.1 ≠ d
  | [], _, _, h => nomatch h
  | _ :: _, x, p, h => by
    rcases List.mem_cons.mp h with rfl | h
    · exact x.1
    · exact ne_of_off1 x.2 p h
theorem Grown.dup {a b : Led} {p : Addr × Obj} (h : Grown a b) (hm : p ∈ b) : Grown a (p :: b) :=
  ⟨fun q hq => .tail _ (h.sub q hq), fun q hq => by
    rcases List.mem_cons.mp hq with e | hq
    · subst e; exact h.off q hm
    · exact h.off q hq⟩
theorem News.dup {h₀ h : Heap} {L : Addr} {news : Led} {p : Addr × Obj} (N : News h₀ L h news) (hm : p ∈ news) : News h₀ L h (p :: news) := fun q hq => by
  rcases List.mem_cons.mp hq with e | hq
  · subst e; exact N q hm
  · exact N q hq

/-- what a call of a def of the text does: it comes back, the ledger grown, and what it hands back fulfils Post -/
def Con (w : World) (f : Addr) (vs : List Value) (dep un' : Nat) (base : Heap) (news : Led) (Post : (Addr × Obj → Prop) → Value → Prop) : Prop :=
  ∀ (mean : ExcName → Option Value) (mg mb : Str → Option Value)
    (dp un : Nat) (gd : Option (List Code)) (cn : Str) (cs : Scope) (a : Addr) (ccd : Value) (cl : List (Str × Addr)) (outer : List Env) (A₀ : Around) (h₀ : Heap) (L : Addr) (m : Str → Option Value) (s : Shared)
    (Q E : Value → Shared → Prop),
    Below A₀ base outer h₀ → Fr h₀ L s.heap m → (hd.heap_39 w.params).In h₀ → News h₀ L s.heap news → Top hd.view_39 LS mean mg mb h₀ → cs.kind = .function →
    dp + dep < recursionLimit → un + un' < cLine →
    (∀ r news' h' tk', Fr h₀ L h' m → News h₀ L h' news' → Grown news news' → Post (Fresh news news') r → Q r { s with heap := h', toks := tk' }) →
    wpAny (model prg w) (ktrTop dp un gd cn cs L a ccd cl outer) (call (.ref f) vs) Q E s

/-- the script, as the law is handed it -/
structure Script (base : Heap) (l : Addr) : Prop where
  is : ∃ vs ns, base.IsList l vs.toArray ∧ IntsAre vs ns ∧ ns.length < 2 ^ 62

theorem number_ok {w : World} {base : Heap} {news : Led} {l : Addr} {k : Int} {tk : Tok} (hs : Script base l) (h0 : 0 ≤ k) (h1 : k < 1000000) :
    Con w 85 [.ref l, .int k tk] 1 8 base news (fun _ r => ∃ i t, r = .int i t) := by
  intro mean mg mb dp un gd cn cs a ccd cl outer A₀ h₀ L m s Q E B F X N T hk hd hu hret
  obtain ⟨vs, ns, hl, hi, hn⟩ := hs.is
  have hl0 : h₀.IsList l vs.toArray := stays_list B.stays hl
  refine wpAny_call ?_
  k_dflt (walk_at "my enter")
  k_steps
  all_goals exact hret _ _ _ _ (by k_asm) (by k_asm) (Grown.refl _) ⟨_, _, rfl⟩
end Mine
end

section
open PySem PySem.W PySem.Spec PySem.Calls PyProof.Rows
set_option Elab.async false
set_option maxRecDepth 100000
set_option maxHeartbeats 8000000
namespace Mine
local macro_rules | `(tactic| walk_at "pad C2 0") => `(tactic| fail)
local macro_rules | `(tactic| walk_at "pad C2 1") => `(tactic| fail)
theorem kept_part2 (h : hd.heap_39 = hd.heap_39 → PySem.Challenge.rw_fc0017_01 = PySem.Challenge.rw_fc0017_01) : True := by
  revert h
  k_fill
  w_top off
  k_with_none
  intro _; trivial
local macro_rules | `(tactic| walk_at "my enter") => `(tactic| (refine' code_def ?k1 ?k2 ?k3 ?k4 ?k5 ?kA ?kF ?kK ?k6 ?k7 ?k8 ?k9 ?kB ?_ ?c2 ?c3 ?c4 ?c5; (case kA => exact rfl); (case kF => exact rfl); (case kK => assumption); (case k1 => k_asm); (case k2 => k_asm); (case k3 => k_asm); (case k4 => k_asm); (case k5 => k_asm); (case k6 => k_is); (case k7 => k_is); (case k8 => ktr_room); (case k9 => exact BindsTo.of_eq rfl); (case c5 => decide); (case kB => exact locs rfl); (case c2 => exact rfl); (case c3 => exact rfl); (case c4 => exact rfl); k_whole; intro g' L' h' FG' F' N' B' X' T'; (try dsimp only); (try k_lift B'); (try k_fold)))

theorem con_use {w : World} {f : Addr} {vs : List Value} {dep un' : Nat} {base : Heap} {news : Led} {Post : (Addr × Obj → Prop) → Value → Prop} (C : Con w f vs dep un' base news Post) {mean : ExcName → Option Value} {mg mb : Str → Option Value}
    {dp un : Nat} {gd : Option (List Code)} {cn : Str} {cs : Scope} {a : Addr} {ccd : Value} {cl : List (Str × Addr)} {outer : List Env} {A₀ : Around} {h₀ : Heap} {L : Addr} {m : Str → Option Value} {s : Shared}
    {Q E : Value → Shared → Prop} (B : Below A₀ base outer h₀) (F : Fr h₀ L s.heap m) (X : (hd.heap_39 w.params).In h₀) (N : News h₀ L s.heap news) (T : Top hd.view_39 LS mean mg mb h₀) (hk : cs.kind = .function)
    (hd : dp + dep < recursionLimit) (hu : un + un' < cLine)
    (hret : ∀ r news' h' tk', Fr h₀ L h' m → News h₀ L h' news' → Grown news news' → Post (Fresh news news') r → Q r { s with heap := h', toks := tk' }) :
    wpAny (model prg w) (ktrTop dp un gd cn cs L a ccd cl outer) (call (.ref f) vs) Q E s := C mean mg mb dp un gd cn cs a ccd cl outer A₀ h₀ L m s Q E B F X N T hk hd hu hret

-- a call that a contract tells: the contract, the script's facts and the bounds are sought
local macro_rules | `(tactic| walk_at "my use") => `(tactic| ( (case k1 => k_asm); (case k2 => k_asm); (case k3 => k_asm); (case k4 => k_asm); (case k5 => k_asm); (case kK => first | exact rfl | assumption); (case kd => ktr_room); (case ku => ktr_units)))
local macro_rules | `(tactic| walk_at "call ref") => `(tactic| (k_here; (with_reducible show wpAny _ _ (call (Value.ref 85) _) _ _ _); refine' con_use (number_ok (by assumption) (by omega) (by omega)) ?k1 ?k2 ?k3 ?k4 ?k5 ?kK ?kd ?ku ?_; walk_at "my use"; intro r9 news9 h9 tk9 F9 N9 g9 p9; (refine Exists.elim p9 ?_); clear p9; intro i9 p9; (refine Exists.elim p9 ?_); clear p9; intro t9 e9; subst e9; (try dsimp only); (try k_fold)))

local macro_rules | `(tactic| walk_at "exec For Name Call cons nil") => `(tactic| (k_here; k_extra "exec For Name Call cons nil"))
abbrev tupO (l : List Value) : Obj := { cls := .type "tuple", data := .seq l.toArray }
abbrev lstO (l : List Value) : Obj := { cls := .type "list", data := .seq l.toArray }
def SS (l : List Nat) : Str := ⟨l.toArray⟩
/-- a count as a value -/
def CntV : Option Nat → Value → Prop
  | none, v => v = .none
  | some k, v => ∃ t, v = .int k t
mutual
/-- the heap's part S bears the tree at v -/
def ItR (S : Addr × Obj → Prop) : It → Value → Prop
  | .tok c x, v => ∃ a cv t, v = .ref a ∧ S (a, tupO [cv, .str (SS x) t]) ∧ CntV c cv
  | .br c xs, v => ∃ a cv l vs, v = .ref a ∧ S (a, tupO [cv, .ref l]) ∧ CntV c cv ∧ S (l, lstO vs) ∧ ItsR S xs vs
def ItsR (S : Addr × Obj → Prop) : List It → List Value → Prop
  | [], vs => vs = []
  | x :: r, vs => ∃ v us, vs = v :: us ∧ ItR S x v ∧ ItsR S r us
end
mutual
theorem ItR.mono {S S' : Addr × Obj → Prop} (h : ∀ p, S p → S' p) : ∀ (x : It) (v : Value), ItR S x v → ItR S' x v
  | .tok c x, v, r => by
    simp only [ItR] at r ⊢
    obtain ⟨a, cv, t, e, hm, hc⟩ := r
    exact ⟨a, cv, t, e, h _ hm, hc⟩
  | .br c xs, v, r => by
    simp only [ItR] at r ⊢
    obtain ⟨a, cv, l, vs, e, hm, hc, hl, hr⟩ := r
    exact ⟨a, cv, l, vs, e, h _ hm, hc, h _ hl, ItsR.mono h xs vs hr⟩
theorem ItsR.mono {S S' : Addr × Obj → Prop} (h : ∀ p, S p → S' p) : ∀ (xs : List It) (vs : List Value), ItsR S xs vs → ItsR S' xs vs
  | [], vs, r => by simpa [ItsR] using r
  | x :: r, vs, q => by
    simp only [ItsR] at q ⊢
    obtain ⟨v, us, e, h1, h2⟩ := q
    exact ⟨v, us, e, ItR.mono h x v h1, ItsR.mono h r us h2⟩
end
theorem ItsR.snoc {S : Addr × Obj → Prop} {x : It} {v : Value} (h : ItR S x v) : ∀ (xs : List It) (vs : List Value), ItsR S xs vs → ItsR S (xs ++ [x]) (vs ++ [v])
  | [], vs, r => by
    simp only [ItsR] at r
    subst r
    exact ⟨v, [], rfl, h, by simp [ItsR]⟩
  | y :: r, vs, q => by
    simp only [ItsR] at q
    obtain ⟨u, us, e, h1, h2⟩ := q
    subst e
    exact ⟨u, us ++ [v], rfl, h1, ItsR.snoc h r us h2⟩
theorem ItsR.len {S : Addr × Obj → Prop} : ∀ (xs : List It) (vs : List Value), ItsR S xs vs → vs.length = xs.length
  | [], vs, r => by simp only [ItsR] at r; subst r; rfl
  | x :: r, vs, q => by
    simp only [ItsR] at q
    obtain ⟨u, us, e, h1, h2⟩ := q
    subst e
    simp [ItsR.len r us h2]

theorem add_two {prog : Program} {w : World} {A : Around} {E : Value → Shared → Prop} {s : Shared} {h₀ : Heap} {L : Addr} {m : Str → Option Value} {news : Led} {l b : Addr} {vs ws : List Value} {Q : Value → Shared → Prop}
    (F : Fr h₀ L s.heap m) (N : News h₀ L s.heap news) (h1 : (l, lstO vs) ∈ news) (h2 : (b, lstO ws) ∈ news) (hsz : vs.length + ws.length ≤ sizeLine)
    (h : ∀ a h', Fr h₀ L h' m → News h₀ L h' ((a, lstO (vs ++ ws)) :: news) → AllLt a news → Q (.ref a) { s with heap := h' }) : wpAny (model prog w) A (binaryOp .Add (.ref l) (.ref b)) Q E s :=
  add_lists (hsz := hsz) (vs := vs) (ws := ws) F N ⟨_, (N _ h1).1, rfl, _, rfl⟩ ⟨_, (N _ h2).1, rfl, _, rfl⟩ fun h' F' N' => h _ h' F' N' (allLt_of fun p hp => Heap.lt_size (N p hp).1)
/-- what _law_item hands back -/
def ItemOut (d : Nat) (k : Int) (S : Addr × Obj → Prop) (r : Value) : Prop :=
  ∃ a v i t x, r = .ref a ∧ S (a, tupO [v, .int i t]) ∧ ItR S x v ∧ Ok d x ∧ k ≤ i ∧ i ≤ k + 20 * 4 ^ d
def ItemCon (w : World) (base : Heap) (l : Addr) (d : Nat) : Prop :=
  ∀ (news : Led) (k : Int) (tk td : Tok) (dv : Int), dv = d → 0 ≤ k → k + 20 * 4 ^ d ≤ 100000 → Con w 92 [.ref l, .int k tk, .int dv td] (d + 2) (16 * (d + 1)) base news (ItemOut d k)

theorem fresh_head {a b : Led} {d : Addr} {o : Obj} (h : Grown a b) (k : ∀ p ∈ b, p.1 ≠ d) : Fresh a ((d, o) :: b) (d, o) := ⟨.head _, fun q hq => k q (h.sub q hq)⟩
theorem Fresh.tail {a b : Led} {x p : Addr × Obj} (h : Fresh a b p) : Fresh a (x :: b) p := ⟨.tail _ h.1, h.2⟩
theorem Fresh.mono {a b c : Led} {p : Addr × Obj} (h : Fresh a b p) (g : ∀ q ∈ b, q ∈ c) : Fresh a c p := ⟨g p h.1, h.2⟩
local macro_rules | `(tactic| walk_at "my grown") => `(tactic| first | assumption | exact Grown.refl _ | (refine Grown.cons ?_ ?_; (walk_at "my grown"); (walk_at "my lt")))
local macro_rules | `(tactic| walk_at "my lt") => `(tactic| first | exact ne_of_allLt (by assumption) | exact ne_of_allLt (allLt_of (by assumption)) | exact ne_of_off1 (by assumption))
local macro_rules | `(tactic| walk_at "my fresh") => `(tactic| first | exact fresh_head (by walk_at "my grown") (by walk_at "my lt") | (refine Fresh.tail ?_; walk_at "my fresh"))

theorem cnt_small {z : Int} {t : Tok} {n : Nat} (h0 : 0 ≤ z) (h1 : z ≤ n) : ∃ c, CntV c (.int z t) ∧ ∀ k, c = some k → k ≤ n :=
  ⟨some z.toNat, ⟨t, by rw [Int.toNat_of_nonneg h0]⟩, fun k e => by cases e; omega⟩
theorem cnt_none {n : Nat} : ∃ c, CntV c .none ∧ ∀ k, c = some k → k ≤ n := ⟨none, rfl, fun k e => by cases e⟩
theorem out_tok {S : Addr × Obj → Prop} {d : Nat} {k i : Int} {a b : Addr} {cv : Value} {y : Str} {t ti : Tok} (h1 : S (a, tupO [.ref b, .int i ti])) (h2 : S (b, tupO [cv, .str y t]))
    (hc : ∃ c, CntV c cv ∧ ∀ k, c = some k → k ≤ 3) (hy : y.cps.toList ∈ words) (hi : i = k + 1) : ItemOut d k S (.ref a) := by
  obtain ⟨c, hcv, hle⟩ := hc
  have hb : (1 : Int) ≤ 20 * 4 ^ d := by
    have : (0 : Int) < 4 ^ d := Int.pow_pos (by decide)
    omega
  refine ⟨a, .ref b, i, ti, .tok c y.cps.toList, rfl, h1, ?_, ?_, by omega, by omega⟩
  · simp only [ItR]
    exact ⟨b, cv, t, rfl, h2, hcv⟩
  · simp only [Ok]
    exact ⟨hle, hy⟩

theorem word_tab (z : Int) : (([Str.ofString "u8", Str.ofString "hex4=f", Str.ofString "i7", Str.ofString "0xff", Str.ofString "bits", Str.ofString "ue", Str.ofString "bin=01", Str.ofString "se=5"] : List Str).getD (Int.fmod z 8).toNat Str.empty).cps.toList ∈ words := by
  have h0 := fmod_lo z (n := 8) (by decide)
  have h1 := fmod_hi z (n := 8) (by decide)
  have all : ∀ j, j < 8 → (([Str.ofString "u8", Str.ofString "hex4=f", Str.ofString "i7", Str.ofString "0xff", Str.ofString "bits", Str.ofString "ue", Str.ofString "bin=01", Str.ofString "se=5"] : List Str).getD j Str.empty).cps.toList ∈ words := by
    intro j hj
    match j, hj with
    | 0, _ => decide +kernel
    | 1, _ => decide +kernel
    | 2, _ => decide +kernel
    | 3, _ => decide +kernel
    | 4, _ => decide +kernel
    | 5, _ => decide +kernel
    | 6, _ => decide +kernel
    | 7, _ => decide +kernel
  exact all _ (by omega)
theorem item0 {w : World} {base : Heap} {l : Addr} (hs : Script base l) : ItemCon w base l 0 := by
  intro news k tk td dv hdv h0 h1
  intro mean mg mb dp un gd cn cs a ccd cl outer A₀ h₀ L m s Q E B F X N T hk hd hu hret
  subst hdv
  simp only [Int.pow_zero] at h1
  refine wpAny_call ?_
  k_dflt (walk_at "my enter")
  k_with "exec For Name Call cons nil" => (exfalso; omega)
  k_with "table" => skip
  k_steps
  all_goals (
    refine' hret _ _ _ _ ?a ?b ?c ?d
    case a => k_asm
    case b => k_asm
    case c => walk_at "my grown"
    case d =>
      refine' out_tok ?a ?b ?c ?d ?e
      case a => walk_at "my fresh"
      case b => walk_at "my fresh"
      case c => first | exact cnt_none | exact cnt_small (fmod_lo _ (by decide)) (Int.le_of_lt_add_one (fmod_hi _ (by decide)))
      case d => exact word_tab _
      case e => rfl)
end Mine
end

section
open PySem PySem.W PySem.Spec PySem.Calls PyProof.Rows
set_option Elab.async false
set_option maxRecDepth 100000
set_option maxHeartbeats 8000000
namespace Mine
local macro_rules | `(tactic| walk_at "pad C3 0") => `(tactic| fail)
local macro_rules | `(tactic| walk_at "pad C3 1") => `(tactic| fail)
local macro_rules | `(tactic| walk_at "pad C3 2") => `(tactic| fail)
theorem kept_part3 (h : hd.heap_39 = hd.heap_39 → PySem.Challenge.rw_fc0017_01 = PySem.Challenge.rw_fc0017_01) : True := by
  revert h
  k_fill
  w_top off
  k_with_none
  intro _; trivial
local macro_rules | `(tactic| walk_at "my enter") => `(tactic| (refine' code_def ?k1 ?k2 ?k3 ?k4 ?k5 ?kA ?kF ?kK ?k6 ?k7 ?k8 ?k9 ?kB ?_ ?c2 ?c3 ?c4 ?c5; (case kA => exact rfl); (case kF => exact rfl); (case kK => assumption); (case k1 => k_asm); (case k2 => k_asm); (case k3 => k_asm); (case k4 => k_asm); (case k5 => k_asm); (case k6 => k_is); (case k7 => k_is); (case k8 => ktr_room); (case k9 => exact BindsTo.of_eq rfl); (case c5 => decide); (case kB => exact locs rfl); (case c2 => exact rfl); (case c3 => exact rfl); (case c4 => exact rfl); k_whole; intro g' L' h' FG' F' N' B' X' T'; (try dsimp only); (try k_lift B'); (try k_fold)))
local macro_rules | `(tactic| walk_at "my use") => `(tactic| ( (case k1 => k_asm); (case k2 => k_asm); (case k3 => k_asm); (case k4 => k_asm); (case k5 => k_asm); (case kK => first | exact rfl | assumption); (case kd => ktr_room); (case ku => ktr_units)))
local macro_rules | `(tactic| walk_at "call ref") => `(tactic| (k_here; (with_reducible show wpAny _ _ (call (Value.ref 85) _) _ _ _); refine' con_use (number_ok (by assumption) (by omega) (by omega)) ?k1 ?k2 ?k3 ?k4 ?k5 ?kK ?kd ?ku ?_; walk_at "my use"; intro r9 news9 h9 tk9 F9 N9 g9 p9; (refine Exists.elim p9 ?_); clear p9; intro i9 p9; (refine Exists.elim p9 ?_); clear p9; intro t9 e9; subst e9; (try dsimp only); (try k_fold)))
local macro_rules | `(tactic| walk_at "exec For Name Call cons nil") => `(tactic| (k_here; k_extra "exec For Name Call cons nil"))
local macro_rules | `(tactic| walk_at "call ref") => `(tactic| (k_here; k_extra "call ref"))
local macro_rules | `(tactic| walk_at "pyIter ref") => `(tactic| (k_here; k_extra "pyIter ref"))
local macro_rules | `(tactic| walk_at "my lt") => `(tactic| first | exact ne_of_allLt (by assumption) | exact ne_of_allLt (allLt_of (by assumption)) | exact ne_of_off1 (by assumption))
local macro_rules | `(tactic| walk_at "my grown") => `(tactic| first | assumption | exact Grown.refl _ | exact Grown.trans (by assumption) (by assumption) | (refine Grown.cons ?_ ?_; (walk_at "my grown"); (walk_at "my lt")))
local macro_rules | `(tactic| walk_at "my fresh") => `(tactic| first | exact fresh_head (by walk_at "my grown") (by walk_at "my lt") | (refine Fresh.tail ?_; walk_at "my fresh"))

local macro_rules | `(tactic| walk_at "my mem") => `(tactic| first | exact .head _ | assumption | (refine .tail _ ?_; walk_at "my mem") | (refine Grown.sub (by assumption) _ ?_; walk_at "my mem"))
local macro_rules | `(tactic| walk_at "binaryOp Add") => `(tactic| (k_here; (with_reducible show wpAny _ _ (binaryOp Operator.Add (Value.ref _) (Value.ref _)) _ _ _); refine' add_two ?k1 ?k2 ?k3 ?k4 ?k5 ?_; (case k1 => k_asm); (case k2 => k_asm); (case k3 => walk_at "my mem"); (case k4 => walk_at "my mem"); (case k5 => walk_at "my fit"); k_whole; intro a9' h9' F9' N9' l9'))
local macro_rules | `(tactic| walk_at "my fit") => `(tactic| k_extra "my fit")
theorem tbEnd_of {h₀ : Heap} {L : Addr} {J : (Str → Option Value) → List (Addr × Obj) → Prop} {own news' : Led} {s₁ : Shared} {h' : Heap} {tk : Nat} {m' : Str → Option Value}
    (F : Fr h₀ L h' m') (N : News h₀ L h' news') (sub : ∀ p ∈ own, p ∈ news') (hJ : J m' (news'.filter fun p => decide (p.1 ∉ own.map (·.1)))) :
    TbEnd h₀ L J own s₁ { s₁ with heap := h', toks := tk } :=
  ⟨h', tk, m', news', _, rfl, F, N, fun p hp => (List.mem_filter.mp hp).1, sub, fun p hp q hq e => by
    have := (List.mem_filter.mp hq).2
    simp only [decide_eq_true_eq] at this
    exact this (e ▸ List.mem_map_of_mem hp), hJ⟩
theorem map_form2 {m m₀ : Str → Option Value} (x1 x2 : Str) {v1 v2 : Value} (ws : List Str) (h1 : m x1 = some v1) (h2 : m x2 = some v2) (h : ∀ z, z ≠ x1 → z ≠ x2 → ws.contains z = false → m z = m₀ z) :
    m = fun z => if z = x1 then some v1 else if z = x2 then some v2 else if ws.contains z then m z else m₀ z := by
  funext z
  by_cases e1 : z = x1
  · rw [if_pos e1, e1, h1]
  · rw [if_neg e1]
    by_cases e2 : z = x2
    · rw [if_pos e2, e2, h2]
    · rw [if_neg e2]
      cases e3 : ws.contains z with
      | true => rfl
      | false => exact h z e1 e2 e3

theorem tbr_m {prog : Program} {w : World} {A : Around} {E : Value → Shared → Prop} {s : Shared} {env : Env} {h₀ : Heap} {x : Str} {body : List Stmt} {Q : Flow → Shared → Prop} {r : Addr} {a₀ b₀ : Int} {t₀ u₀ v₀ : Tok} {n : Nat} {m₀ : Str → Option Value} {news : List (Addr × Obj)}
    (J : (Str → Option Value) → Nat → (Str → Option Value) → List (Addr × Obj) → Prop)
    (hh : A.handled = none) (hr : IsRange s.heap r a₀ b₀ 1 t₀ u₀ v₀) (hsmall : Builtin.Range.small a₀ b₀ 1 = true) (hn : Builtin.Range.rangeSize a₀ b₀ 1 = (n : Int)) (F : Fr h₀ env.locals s.heap m₀) (N : News h₀ env.locals s.heap news) (hj : J m₀ 0 m₀ news)
    (turn : ∀ i k t m₁ nx h tk own, (rangeKs a₀ n)[i]? = some k → TbOff own nx → J m₀ i m₁ nx → Fr h₀ env.locals h (fun y => if y = x then some (.int k t) else m₁ y) → News h₀ env.locals h (nx ++ own) →
      wpAny (model prog w) A (execs body env) (TbPost h₀ env.locals (J m₀ (i + 1)) own { s with heap := h, toks := tk } Q) E { s with heap := h, toks := tk })
    (done : ∀ m₁ nx h tk, J m₀ n m₁ nx → Fr h₀ env.locals h m₁ → News h₀ env.locals h nx → Q .next { s with heap := h, toks := tk }) :
    wpAny (model prog w) A (pyIter (.ref r)) (fun it s₂ => LoopAtV prog w A h₀ env x body Q E it s₂) E s := tbr_invG (J m₀) hh hr hsmall hn F N hj turn done

theorem turn_fresh {news nx own big : Led} (g0 : Grown news nx) (hoff : TbOff own nx) (g : Grown (nx ++ own) big) :
    Grown news (big.filter fun p => decide (p.1 ∉ own.map (·.1))) ∧ (∀ p, Fresh news nx p → Fresh news (big.filter fun p => decide (p.1 ∉ own.map (·.1))) p) ∧
    (∀ p, Fresh (nx ++ own) big p → Fresh news (big.filter fun p => decide (p.1 ∉ own.map (·.1))) p) ∧ ∀ p ∈ own, p ∈ big := by
  have keep : ∀ p ∈ nx, p ∈ big.filter fun p => decide (p.1 ∉ own.map (·.1)) := fun p hp =>
    List.mem_filter.mpr ⟨g.sub p (List.mem_append_left _ hp), decide_eq_true fun hm => by
      obtain ⟨q, hq, e⟩ := List.mem_map.mp hm
      exact hoff q hq p hp e⟩
  refine ⟨⟨fun p hp => keep p (g0.sub p hp), fun p hp => ?_⟩, fun p hp => ⟨keep p hp.1, hp.2⟩, fun p hp => ⟨List.mem_filter.mpr ⟨hp.1, decide_eq_true fun hm => ?_⟩, fun q hq => hp.2 q (List.mem_append_left _ (g0.sub q hq))⟩, fun p hp => g.sub p (List.mem_append_right _ hp)⟩
  · obtain ⟨h1, h2⟩ := List.mem_filter.mp hp
    rcases g.off p h1 with h | h
    · rcases List.mem_append.mp h with h | h
      · exact g0.off p h
      · exact absurd (List.mem_map_of_mem h) (of_decide_eq_true h2)
    · exact .inr fun q hq => h q (List.mem_append_left _ (g0.sub q hq))
  · obtain ⟨q, hq, e⟩ := List.mem_map.mp hm
    exact hp.2 q (List.mem_append_right _ hq) e

/-- between the turns of _law_item's loop -/
def ItemJ (d : Nat) (k : Int) (news : Led) (m₀ : Str → Option Value) (i : Nat) (m : Str → Option Value) (nx : Led) : Prop :=
  Grown news nx ∧ (∀ z, z ≠ Str.ofString "items" → z ≠ Str.ofString "place" → ([Str.ofString "turn", Str.ofString "item"] : List Str).contains z = false → m z = m₀ z) ∧
  ∃ l vs xs pl t, m (Str.ofString "items") = some (.ref l) ∧ m (Str.ofString "place") = some (.int pl t) ∧ Fresh news nx (l, lstO vs) ∧ ItsR (Fresh news nx) xs vs ∧ Oks d xs ∧ xs.length = i ∧ k + 1 ≤ pl ∧ pl ≤ k + 1 + i * (20 * 4 ^ d)
theorem ItemJ.start {d : Nat} {k : Int} {news : Led} {m₀ : Str → Option Value} {l : Addr} {t : Tok} {nx : Led} (g : Grown news nx) (h1 : m₀ (Str.ofString "items") = some (.ref l)) (h2 : m₀ (Str.ofString "place") = some (.int (k + 1) t)) (h3 : Fresh news nx (l, lstO [])) : ItemJ d k news m₀ 0 m₀ nx :=
  ⟨g, fun _ _ _ _ => rfl, l, [], [], k + 1, t, h1, h2, h3, by simp [ItsR], by simp [Oks], rfl, Int.le_refl _, by simp⟩
theorem Oks.snoc {d : Nat} {xs : List It} {x : It} (h : Oks d xs) (hx : Ok d x) : Oks d (xs ++ [x]) := by
  rw [Oks_iff] at h ⊢
  intro y hy
  rcases List.mem_append.mp hy with hy | hy
  · exact h y hy
  · rw [List.mem_singleton.mp hy]; exact hx
theorem ItemJ.next {d : Nat} {k : Int} {news nx own big : Led} {m₀ m' : Str → Option Value} {i : Nat} {l' : Addr} {vs : List Value} {v : Value} {xs : List It} {x : It} {pl i9 : Int} {t9 : Tok}
    (g0 : Grown news nx) (hoff : TbOff own nx) (g : Grown (nx ++ own) big)
    (hm : ∀ z, z ≠ Str.ofString "items" → z ≠ Str.ofString "place" → z ≠ Str.ofString "turn" → z ≠ Str.ofString "item" → m' z = m₀ z)
    (e1 : m' (Str.ofString "items") = some (.ref l')) (e2 : m' (Str.ofString "place") = some (.int i9 t9)) (hl : Fresh (nx ++ own) big (l', lstO (vs ++ [v]))) (hR : ItsR (Fresh news nx) xs vs) (R9 : ItR (Fresh (nx ++ own) big) x v)
    (hO : Oks d xs) (O9 : Ok d x) (hlen : xs.length = i) (hlo : k + 1 ≤ pl) (hhi : pl ≤ k + 1 + i * (20 * 4 ^ d)) (lo9 : pl ≤ i9) (hi9 : i9 ≤ pl + 20 * 4 ^ d) :
    ItemJ d k news m₀ (i + 1) m' (big.filter fun p => decide (p.1 ∉ own.map (·.1))) := by
  obtain ⟨f1, f2, f3, _⟩ := turn_fresh g0 hoff g
  refine ⟨f1, fun z h1 h2 h3 => ?_, l', vs ++ [v], xs ++ [x], i9, t9, e1, e2, f3 _ hl, ItsR.snoc (ItR.mono f3 _ _ R9) _ _ (ItsR.mono f2 _ _ hR), hO.snoc O9, by simp [hlen], by omega, ?_⟩
  · have h3' : ¬z = Str.ofString "turn" ∧ ¬z = Str.ofString "item" := by simpa using h3
    exact hm z h1 h2 h3'.1 h3'.2
  · have : ((i + 1 : Nat) : Int) * (20 * 4 ^ d) = (i : Int) * (20 * 4 ^ d) + 20 * 4 ^ d := by
      rw [show ((i + 1 : Nat) : Int) = (i : Int) + 1 by omega, Int.add_mul]; omega
    omega
theorem out_br {S : Addr × Obj → Prop} {d : Nat} {k pl : Int} {a b l : Addr} {cv : Value} {vs : List Value} {xs : List It} {n : Nat} {tp : Tok} (h1 : S (a, tupO [.ref b, .int pl tp])) (h2 : S (b, tupO [cv, .ref l]))
    (hc : ∃ c, CntV c cv ∧ ∀ k, c = some k → k ≤ 2) (hl : S (l, lstO vs)) (hR : ItsR S xs vs) (hO : Oks d xs) (hlen : xs.length = n) (hn : 1 ≤ n ∧ n ≤ 3) (hlo : k + 1 ≤ pl) (hhi : pl ≤ k + 1 + n * (20 * 4 ^ d)) : ItemOut (d + 1) k S (.ref a) := by
  obtain ⟨c, hcv, hle⟩ := hc
  have hP : (0 : Int) < 4 ^ d := Int.pow_pos (by decide)
  have hPs : (4 : Int) ^ (d + 1) = 4 * 4 ^ d := by rw [Int.pow_succ]; omega
  have h3 : (n : Int) * (20 * 4 ^ d) ≤ 3 * (20 * 4 ^ d) := Int.mul_le_mul_of_nonneg_right (by omega) (by omega)
  refine ⟨a, .ref b, pl, tp, .br c xs, rfl, h1, ?_, ?_, by omega, by rw [hPs]; omega⟩
  · simp only [ItR]
    exact ⟨b, cv, l, vs, rfl, h2, hcv, hl, hR⟩
  · simp only [Ok]
    exact ⟨hle, fun e => by rw [e] at hlen; simp at hlen; omega, by omega, by omega, hO⟩
theorem rng_len {z : Int} : 1 ≤ (1 + Int.fmod z 3 - 0).toNat ∧ (1 + Int.fmod z 3 - 0).toNat ≤ 3 := by
  have h0 := fmod_lo z (n := 3) (by decide)
  have h1 := fmod_hi z (n := 3) (by decide)
  omega
theorem rng_small {z : Int} {i : Nat} {j : Int} (h : (rangeKs 0 (1 + Int.fmod z 3 - 0).toNat)[i]? = some j) : i ≤ 2 := by
  have h1 := (List.getElem?_eq_some_iff.mp h).1
  rw [rangeKs_length] at h1
  have := fmod_hi z (n := 3) (by decide)
  omega
theorem room_pl {k pl P : Int} {i : Nat} (hP : 1 ≤ P) (h : pl ≤ k + 1 + i * (20 * P)) (hi : i ≤ 2) : pl ≤ k + 1 + 40 * P := by
  have : (i : Int) * (20 * P) ≤ 2 * (20 * P) := Int.mul_le_mul_of_nonneg_right (by omega) (by omega)
  omega
theorem pow4 (d : Nat) : (1 : Int) ≤ 4 ^ d := by
  have : (0 : Int) < 4 ^ d := Int.pow_pos (by decide)
  omega
theorem item_succ {w : World} {base : Heap} {l : Addr} (hs : Script base l) {d : Nat} (hd2 : d ≤ 1) (IH : ItemCon w base l d) : ItemCon w base l (d + 1) := by
  intro news k tk td dv hdv h0 h1
  intro mean mg mb dp un gd cn cs a ccd cl outer A₀ h₀ L m s Q E B F X N T hk hd hu hret
  have hP := pow4 d
  have hPs : (4 : Int) ^ (d + 1) = 4 * 4 ^ d := by rw [Int.pow_succ]; omega
  rw [hPs] at h1
  refine wpAny_call ?_
  k_dflt (walk_at "my enter")
  k_with "exec For Name Call cons nil" => (exfalso; omega)
  k_with "call ref" => (
    (with_reducible show wpAny _ _ (call (Value.ref 92) _) _ _ _)
    refine' con_use (IH _ _ _ _ _ (by omega) (by omega) (by omega)) ?k1 ?k2 ?k3 ?k4 ?k5 ?kK ?kd ?ku ?_
    walk_at "my use"
    intro r9 news9 h9 tk9 F9 N9 g9 p9
    obtain ⟨a9, v9, i9, t9, x9, e9, m9, R9, O9, lo9, hi9⟩ := p9
    subst e9
    have N9 := News.dup N9 m9.1
    have g9 := Grown.dup g9 m9.1
    (try dsimp only)
    (try k_fold))
  k_with "my fit" => (have hq := ItsR.len xs vs hR; simp only [List.length_append, List.length_cons, List.length_nil]; unfold sizeLine; omega)
  k_with "pyIter ref" => (
    (rename Fr _ _ _ _ => lF); (rename News _ _ _ _ => lN); (rename IsRange _ _ _ _ _ _ _ _ => rgX)
    with_unfolding_all refine' tbr_m (ItemJ d k news) (by rfl) rgX (by exact small_one (by l_bnd) (by l_bnd) (by l_bnd) (by l_bnd)) (by exact rangeSize_nat _ _) lF lN ?hj ?turn ?done
    case hj =>
      refine' ItemJ.start ?h0 ?h1 ?h2 ?h3
      case h0 => walk_at "my grown"
      case h1 => with_unfolding_all exact rfl
      case h2 => with_unfolding_all exact rfl
      case h3 => walk_at "my fresh"
    case' turn =>
      intro i j tj m₁ nx h2 tk2 own hji hoff hJ lF lN
      obtain ⟨g0, hm, l2, vs, xs, pl, tp, e1, e2, hl2, hR, hO, hlen, hlo, hhi⟩ := hJ
      have hi2 := rng_small hji
      have hpl := room_pl hP hhi hi2
      rw [map_form2 _ _ _ e1 e2 hm] at lF
      have lN := News.dup lN (List.mem_append_left own hl2.1)
      have gD : Grown (nx ++ own) ((l2, lstO vs) :: (nx ++ own)) := Grown.dup (Grown.refl _) (List.mem_append_left own hl2.1)
      (try dsimp only)
      (try k_fold)
    case' done =>
      intro m₁ nx h2 tk2 hJ lF lN
      obtain ⟨g0, hm, l2, vs, xs, pl, tp, e1, e2, hl2, hR, hO, hlen, hlo, hhi⟩ := hJ
      rw [map_form2 _ _ _ e1 e2 hm] at lF
      have lN := News.dup lN hl2.1
      have g0 := Grown.dup g0 hl2.1
      (try dsimp only)
      (try k_fold))
  k_with "table" => skip
  k_steps
  all_goals first
    | (
      refine' hret _ _ _ _ ?a ?b ?c ?d
      case a => k_asm
      case b => k_asm
      case c => walk_at "my grown"
      case d =>
        first
        | (refine' out_tok ?a ?b ?c ?d ?e
           case a => walk_at "my fresh"
           case b => walk_at "my fresh"
           case c => first | exact cnt_none | exact cnt_small (fmod_lo _ (by decide)) (Int.le_of_lt_add_one (fmod_hi _ (by decide)))
           case d => exact word_tab _
           case e => rfl)
        | (refine' out_br (d := d) ?a ?b ?c ?hl ?hR hO hlen rng_len hlo hhi
           case a => walk_at "my fresh"
           case b => walk_at "my fresh"
           case c => first | exact cnt_none | exact cnt_small (fmod_lo _ (by decide)) (Int.le_of_lt_add_one (fmod_hi _ (by decide)))
           case hl => exact Fresh.mono hl2 (fun q hq => .tail _ (.tail _ (.tail _ hq)))
           case hR => exact ItsR.mono (fun p hp => Fresh.mono hp (fun q hq => .tail _ (.tail _ (.tail _ hq)))) _ _ hR))
    | skip
  · refine' tbEnd_of ?F ?N ?sub ?J
    case F => k_asm
    case N => k_asm
    case sub => exact fun p hp => Grown.sub (by walk_at "my grown") p (List.mem_append_right _ hp)
    case J =>
      refine' ItemJ.next g0 hoff ?g ?hm ?e1 ?e2 ?hl hR ?R9 hO O9 hlen hlo hhi lo9 hi9
      case g => walk_at "my grown"
      case hm =>
        intro z z1 z2 z3 z4
        have z5 : ([Str.ofString "turn", Str.ofString "item"] : List Str).contains z = false := by simpa using ⟨z3, z4⟩
        simp only [if_neg z1, if_neg z2, if_neg z3, if_neg z4, z5, Bool.false_eq_true, if_false]
      case e1 => with_unfolding_all exact rfl
      case e2 => with_unfolding_all exact rfl
      case hl => walk_at "my fresh"
      case R9 => exact ItR.mono (fun p hp => ⟨.tail _ (.tail _ (.tail _ hp.1)), fun q hq => hp.2 q (.tail _ hq)⟩) _ _ R9
end Mine
end

section
open PySem PySem.W PySem.Spec PySem.Calls PyProof.Rows
set_option Elab.async false
set_option maxRecDepth 100000
set_option maxHeartbeats 8000000
set_option linter.unusedVariables false
namespace Mine
local macro_rules | `(tactic| walk_at "pad C4 0") => `(tactic| fail)
local macro_rules | `(tactic| walk_at "pad C4 1") => `(tactic| fail)
local macro_rules | `(tactic| walk_at "pad C4 2") => `(tactic| fail)
local macro_rules | `(tactic| walk_at "pad C4 3") => `(tactic| fail)
theorem kept_part4 (h : hd.heap_39 = hd.heap_39 → PySem.Challenge.rw_fc0017_01 = PySem.Challenge.rw_fc0017_01) : True := by
  revert h
  k_fill
  w_top off
  k_with_none
  intro _; trivial
local macro_rules | `(tactic| walk_at "my enter") => `(tactic| (refine' code_def ?k1 ?k2 ?k3 ?k4 ?k5 ?kA ?kF ?kK ?k6 ?k7 ?k8 ?k9 ?kB ?_ ?c2 ?c3 ?c4 ?c5; (case kA => exact rfl); (case kF => exact rfl); (case kK => assumption); (case k1 => k_asm); (case k2 => k_asm); (case k3 => k_asm); (case k4 => k_asm); (case k5 => k_asm); (case k6 => k_is); (case k7 => k_is); (case k8 => ktr_room); (case k9 => exact BindsTo.of_eq rfl); (case c5 => decide); (case kB => exact locs rfl); (case c2 => exact rfl); (case c3 => exact rfl); (case c4 => exact rfl); k_whole; intro g' L' h' FG' F' N' B' X' T'; (try dsimp only); (try k_lift B'); (try k_fold)))
local macro_rules | `(tactic| walk_at "my use") => `(tactic| ( (case k1 => k_asm); (case k2 => k_asm); (case k3 => k_asm); (case k4 => k_asm); (case k5 => k_asm); (case kK => first | exact rfl | assumption); (case kd => ktr_room); (case ku => ktr_units)))
local macro_rules | `(tactic| walk_at "call ref") => `(tactic| (k_here; k_extra "call ref"))
local macro_rules | `(tactic| walk_at "pyIter ref") => `(tactic| (k_here; k_extra "pyIter ref"))
local macro_rules | `(tactic| walk_at "exec For Name Call cons nil") => `(tactic| (k_here; k_extra "exec For Name Call cons nil"))
local macro_rules | `(tactic| walk_at "my lt") => `(tactic| first | exact ne_of_allLt (by assumption) | exact ne_of_allLt (allLt_of (by assumption)) | exact ne_of_off1 (by assumption))
local macro_rules | `(tactic| walk_at "my grown") => `(tactic| first | assumption | exact Grown.refl _ | exact Grown.trans (by assumption) (by assumption) | (refine Grown.cons ?_ ?_; (walk_at "my grown"); (walk_at "my lt")) | (refine Grown.dup ?_ ?_; (walk_at "my grown"); (walk_at "my mem")))
local macro_rules | `(tactic| walk_at "my fresh") => `(tactic| first | exact fresh_head (by walk_at "my grown") (by walk_at "my lt") | (refine Fresh.tail ?_; walk_at "my fresh"))
local macro_rules | `(tactic| walk_at "my mem") => `(tactic| first | exact .head _ | assumption | (refine .tail _ ?_; walk_at "my mem") | (refine Grown.sub (by assumption) _ ?_; walk_at "my mem"))
local macro_rules | `(tactic| walk_at "my fit") => `(tactic| k_extra "my fit")
local macro_rules | `(tactic| walk_at "binaryOp Add") => `(tactic| (k_here; (with_reducible show wpAny _ _ (binaryOp Operator.Add (Value.ref _) (Value.ref _)) _ _ _); refine' add_two ?k1 ?k2 ?k3 ?k4 ?k5 ?_; (case k1 => k_asm); (case k2 => k_asm); (case k3 => walk_at "my mem"); (case k4 => walk_at "my mem"); (case k5 => walk_at "my fit"); k_whole; intro a9' h9' F9' N9' l9'))
local macro_rules | `(tactic| walk_at "eval ListComp") => `(tactic| (k_here; k_dflt (refine LCg.ListComp_U (F₀ := by k_asm) (by rfl) (by decide) (by rfl) (by decide) (by rfl) ?_)))
local macro_rules | `(tactic| walk_at "CompSrc") => `(tactic| (k_extra "CompSrc"))
local macro_rules | `(tactic| walk_at "call builtin:str.join") => `(tactic| (k_here; k_extra "call builtin:str.join"))

theorem comp_strs {prog : Program} {w : World} {A : Around} {h₀ : Heap} {L : Addr} {m : Str → Option Value} {env : Env} {elt : Expr} {x : Str} {scope : Scope} {cl : List (Str × Addr)} {s : Shared} {S : List (Addr × Obj) → Prop} {P : Nat → Value → Prop} {Fin : List Value → List (Addr × Obj) → Prop} {news : Led}
    {n : Nat} (gs : List Str) (hn : gs.length = n)
    (turn : ∀ i v I oI C oC D m₂ ys h tk (E' : Value → Shared → Prop) (y : Str), i < n → gs[i]? = some y → P i v → LCg.NsObj oC m₂ → m₂ x = some v → Fr h₀ L h m → News h₀ L h ((I, oI) :: (C, oC) :: (D, LCg.lst ys) :: news) → LCg.Off3 I C D news → ((@Ne Nat I C) ∧ (@Ne Nat I D) ∧ (@Ne Nat C D)) →
      wpAny (model prog w) A (eval elt (compEnvC scope cl C env)) (LCg.CompEnd h₀ L m { s with heap := h, toks := tk } I oI C oC D (LCg.lst ys) S (fun v' news' => news' = news ∧ ∃ t : Tok, v' = .str y t)) E' { s with heap := h, toks := tk })
    (fin : ∀ ys, StrsAre ys gs → Fin ys news) : LCg.CompRest prog w A h₀ L m env elt x scope cl s S P Fin n 0 [] news := by
  have key : ∀ (j i : Nat) (ys : List Value), i + j = n → StrsAre ys (gs.take i) → LCg.CompRest prog w A h₀ L m env elt x scope cl s S P Fin j i ys news := by
    intro j
    induction j with
    | zero =>
      intro i ys hi hy
      have e : i = gs.length := by omega
      subst e
      rw [List.take_length] at hy
      exact LCg.CompRest.zero (fin ys hy)
    | succ j ih =>
      intro i ys hi hy
      refine LCg.CompRest.succ ?_
      intro v I oI C oC D m₂ h tk E' hv hC hx F N off ne
      have hk : gs[i]? = some gs[i] := List.getElem?_eq_getElem (by omega)
      refine wpAny_mono (turn i v I oI C oC D m₂ ys h tk E' _ (by omega) hk hv hC hx F N off ne) (fun y s₂ hq => ?_) fun _ _ e => e
      obtain ⟨h', tk', nw, e, F', N', off', hS, hnw, t', hy'⟩ := hq
      rw [hnw] at N' off' hS
      refine ⟨h', tk', news, e, F', N', off', hS, ?_⟩
      rw [hy']
      refine ih (i + 1) _ (by omega) ?_
      rw [List.take_add_one, hk]
      exact kct_snoc hy
  exact key n 0 [] (by omega) (by rw [List.take_zero]; exact .nil)

theorem comp_end {h₀ : Heap} {L I C D : Addr} {m : Str → Option Value} {s₁ : Shared} {oI oC oD : Obj} {S : List (Addr × Obj) → Prop} {y : Str} {t : Tok} {h' : Heap} {tk : Nat} {all news : Led}
    (F : Fr h₀ L h' m) (N : News h₀ L h' all) (sub : Grown ((I, oI) :: (C, oC) :: (D, oD) :: news) all) (off : LCg.Off3 I C D news) (hS : S news) :
    LCg.CompEnd h₀ L m s₁ I oI C oC D oD S (fun v' news' => news' = news ∧ ∃ t : Tok, v' = .str y t) (.str y t) { s₁ with heap := h', toks := tk } :=
  LCg.CompEnd.intro F N news (fun p hp => sub.sub p hp) off hS ⟨rfl, t, rfl⟩

theorem s_comma : Str.ofString "," = SS [44] := by decide +kernel
theorem s_open : Str.ofString "(" = SS [40] := by decide +kernel
theorem s_close : Str.ofString ")" = SS [41] := by decide +kernel
theorem s_star : Str.ofString "*" = SS [42] := by decide +kernel
theorem s_none : Str.ofString "" = SS [] := by decide +kernel
theorem SS_append (a b : List Nat) : SS a ++ SS b = SS (a ++ b) := by
  refine Str.ext' ?_
  rw [Str.cps_append]
  simp [SS]
theorem SS_len (a : List Nat) : (SS a).length = a.length := by show a.toArray.size = _; simp
theorem SS_join (l : List (List Nat)) : Txt.join (SS [44]) (l.map SS) = SS (joinC l) := by
  have e : Txt.join (SS [44]) (l.map SS) = Str.join (SS [44]) (l.map SS) := eq_of_beq (join_plain_closes _ _)
  rw [e]
  clear e
  induction l with
  | nil => rfl
  | cons x r ih =>
    cases r with
    | nil => rfl
    | cons y r =>
      have h1 : Str.join (SS [44]) ((x :: y :: r).map SS) = SS x ++ SS [44] ++ Str.join (SS [44]) ((y :: r).map SS) := rfl
      rw [h1, ih, SS_append, SS_append, joinC_cons (x := x) (r := y :: r) (by simp), List.append_assoc]
      rfl
theorem sum_len (l : List (List Nat)) : (((l.map SS).map (·.length)).sum + (l.map SS).length * 1) ≤ (joinC l).length + 1 := by
  induction l with
  | nil => simp
  | cons x r ih =>
    cases r with
    | nil => simp [joinC, SS_len]
    | cons y r =>
      rw [joinC_cons (by simp)]
      simp only [List.map_cons, List.sum_cons, List.length_cons, List.length_append, SS_len] at ih ⊢
      omega
theorem join_call {prog : Program} {w : World} {A : Around} {E : Value → Shared → Prop} {s : Shared} {h₀ : Heap} {L : Addr} {news : Led} {l : Addr} {vs : List Value} {n : Nat} {gs : List (List Nat)} {x : Str} {t : Tok} {Q : Value → Shared → Prop}
    (N : News h₀ L s.heap news) (hl : (l, ({ cls := .type "list", data := .seq vs.toArray n } : Obj)) ∈ news) (hi : StrsAre vs (gs.map SS)) (hx : x = SS [44]) (hb : (joinC gs).length ≤ 1000000)
    (h : ∀ t' k, Q (.str (SS (joinC gs)) t') { s with toks := k }) : wpAny (model prog w) A (call (.builtin "str.join") [.str x t, .ref l]) Q E s := by
  subst hx
  have hs := sum_len gs
  have h1 : (SS [44]).length = 1 := rfl
  refine join_list (items := vs.toArray) ⟨_, (N _ hl).1, rfl, _, rfl⟩ (by simpa using hi) (by rw [h1]; omega) ?_
  rw [SS_join]
  exact h

/-- what _law_written hands back -/
def WrCon (w : World) (base : Heap) (d : Nat) : Prop :=
  ∀ (news : Led) (v : Value) (x : It), ItR (· ∈ news) x v → Ok d x → Con w 97 [v] (d + 2) (16 * (d + 2)) base news (fun _ r => ∃ t, r = .str (SS (wr x)) t)

theorem ItsR.at {S : Addr × Obj → Prop} : ∀ (xs : List It) (vs : List Value), ItsR S xs vs → ∀ (i : Nat) (v : Value), vs[i]? = some v → ∃ x, xs[i]? = some x ∧ ItR S x v
  | [], vs, r, i, v, h => by
    simp only [ItsR] at r
    subst r
    simp at h
  | x :: r, vs, q, i, v, h => by
    simp only [ItsR] at q
    obtain ⟨u, us, e, h1, h2⟩ := q
    subst e
    cases i with
    | zero =>
      simp only [List.getElem?_cons_zero, Option.some.injEq] at h
      subst h
      exact ⟨x, rfl, h1⟩
    | succ i =>
      simp only [List.getElem?_cons_succ] at h ⊢
      exact ItsR.at r us h2 i v h


theorem wr_text (a : List Nat) (J : List Nat) : SS a ++ Str.ofString "(" ++ SS J ++ Str.ofString ")" = SS (a ++ 40 :: (J ++ [41])) := by
  rw [s_open, s_close, SS_append, SS_append, SS_append]
  simp

end Mine
end

section
open PySem PySem.W PySem.Spec PySem.Calls PyProof.Rows
set_option Elab.async false
set_option maxRecDepth 100000
set_option maxHeartbeats 8000000
set_option linter.unusedVariables false
namespace Mine
local macro_rules | `(tactic| walk_at "pad C5 0") => `(tactic| fail)
local macro_rules | `(tactic| walk_at "pad C5 1") => `(tactic| fail)
local macro_rules | `(tactic| walk_at "pad C5 2") => `(tactic| fail)
local macro_rules | `(tactic| walk_at "pad C5 3") => `(tactic| fail)
local macro_rules | `(tactic| walk_at "pad C5 4") => `(tactic| fail)
theorem kept_part5 (h : hd.heap_39 = hd.heap_39 → PySem.Challenge.rw_fc0017_01 = PySem.Challenge.rw_fc0017_01) : True := by
  revert h
  k_fill
  w_top off
  k_with_none
  intro _; trivial
local macro_rules | `(tactic| walk_at "my enter") => `(tactic| (refine' code_def ?k1 ?k2 ?k3 ?k4 ?k5 ?kA ?kF ?kK ?k6 ?k7 ?k8 ?k9 ?kB ?_ ?c2 ?c3 ?c4 ?c5; (case kA => exact rfl); (case kF => exact rfl); (case kK => assumption); (case k1 => k_asm); (case k2 => k_asm); (case k3 => k_asm); (case k4 => k_asm); (case k5 => k_asm); (case k6 => k_is); (case k7 => k_is); (case k8 => ktr_room); (case k9 => exact BindsTo.of_eq rfl); (case c5 => decide); (case kB => exact locs rfl); (case c2 => exact rfl); (case c3 => exact rfl); (case c4 => exact rfl); k_whole; intro g' L' h' FG' F' N' B' X' T'; (try dsimp only); (try k_lift B'); (try k_fold)))
local macro_rules | `(tactic| walk_at "my use") => `(tactic| ( (case k1 => k_asm); (case k2 => k_asm); (case k3 => k_asm); (case k4 => k_asm); (case k5 => k_asm); (case kK => first | exact rfl | assumption); (case kd => ktr_room); (case ku => ktr_units)))
local macro_rules | `(tactic| walk_at "call ref") => `(tactic| (k_here; k_extra "call ref"))
local macro_rules | `(tactic| walk_at "pyIter ref") => `(tactic| (k_here; k_extra "pyIter ref"))
local macro_rules | `(tactic| walk_at "exec For Name Call cons nil") => `(tactic| (k_here; k_extra "exec For Name Call cons nil"))
local macro_rules | `(tactic| walk_at "my lt") => `(tactic| first | exact ne_of_allLt (by assumption) | exact ne_of_allLt (allLt_of (by assumption)) | exact ne_of_off1 (by assumption))
local macro_rules | `(tactic| walk_at "my grown") => `(tactic| first | assumption | exact Grown.refl _ | exact Grown.trans (by assumption) (by assumption) | (refine Grown.cons ?_ ?_; (walk_at "my grown"); (walk_at "my lt")) | (refine Grown.dup ?_ ?_; (walk_at "my grown"); (walk_at "my mem")))
local macro_rules | `(tactic| walk_at "my fresh") => `(tactic| first | exact fresh_head (by walk_at "my grown") (by walk_at "my lt") | (refine Fresh.tail ?_; walk_at "my fresh"))
local macro_rules | `(tactic| walk_at "my mem") => `(tactic| first | exact .head _ | assumption | (refine .tail _ ?_; walk_at "my mem") | (refine Grown.sub (by assumption) _ ?_; walk_at "my mem"))
local macro_rules | `(tactic| walk_at "my fit") => `(tactic| k_extra "my fit")
local macro_rules | `(tactic| walk_at "binaryOp Add") => `(tactic| (k_here; (with_reducible show wpAny _ _ (binaryOp Operator.Add (Value.ref _) (Value.ref _)) _ _ _); refine' add_two ?k1 ?k2 ?k3 ?k4 ?k5 ?_; (case k1 => k_asm); (case k2 => k_asm); (case k3 => walk_at "my mem"); (case k4 => walk_at "my mem"); (case k5 => walk_at "my fit"); k_whole; intro a9' h9' F9' N9' l9'))
local macro_rules | `(tactic| walk_at "eval ListComp") => `(tactic| (k_here; k_dflt (refine LCg.ListComp_U (F₀ := by k_asm) (by rfl) (by decide) (by rfl) (by decide) (by rfl) ?_)))
local macro_rules | `(tactic| walk_at "CompSrc") => `(tactic| (k_extra "CompSrc"))
local macro_rules | `(tactic| walk_at "call builtin:str.join") => `(tactic| (k_here; k_extra "call builtin:str.join"))

theorem str_small {c : Nat} (h : c ≤ 3) : Str.ofString (toString (c : Int)) = SS [48 + c] := by
  match c, h with
  | 0, _ => decide +kernel
  | 1, _ => decide +kernel
  | 2, _ => decide +kernel
  | 3, _ => decide +kernel

theorem written_br0 {w : World} {base : Heap} {d : Nat} (IH : WrCon w base d) {news : Led} {v : Value} {xs : List It} (hR : ItR (· ∈ news) (.br none xs) v) (hO : Ok (d + 1) (.br none xs)) (hjl : (joinC (wrs xs)).length ≤ 100000) :
    Con w 97 [v] (d + 3) (16 * (d + 3)) base news (fun _ r => ∃ t, r = .str (SS (wr (.br none xs))) t) := by
  simp only [ItR] at hR
  obtain ⟨a0, cv, l0, vs, rfl, hm, hc, hl, hRs⟩ := hR
  simp only [CntV] at hc
  subst hc
  simp only [Ok] at hO
  obtain ⟨hO1, hO2, hO3, hO4, hO5⟩ := hO
  
  have hlen := ItsR.len xs vs hRs
  have hjs : (SS (joinC (wrs xs))).length ≤ 100000 := by rw [SS_len]; exact hjl
  intro mean mg mb dp un gd cn cs a ccd cl outer A₀ h₀ L m s Q E B F X N T hk hd hu hret
  have g0 : Grown news ((a0, tupO [.none, .ref l0]) :: (l0, lstO vs) :: news) := Grown.dup (Grown.dup (Grown.refl _) hl) (.tail _ hm)
  have N := News.dup (News.dup N hl) (.tail _ hm)
  refine wpAny_call ?_
  k_dflt (walk_at "my enter")
  k_with_none
  k_with "call ref" => (
    (with_reducible show wpAny _ _ (call (Value.ref 97) _) _ _ _)
    refine' con_use (IH _ _ x9 ?kR hO9) ?k1 ?k2 ?k3 ?k4 ?k5 ?kK ?kd ?ku ?_
    walk_at "my use"
    case kR => exact ItR.mono (fun p hp => by walk_at "my mem") _ _ hx9
    intro r9 news9 h9 tk9 F9 N9 g9 p9
    obtain ⟨t9, e9⟩ := p9
    subst e9
    (try dsimp only)
    (try k_fold))
  k_with "call builtin:str.join" => (
    refine join_call (gs := wrs xs) (by k_asm) (.head _) hys s_comma (by omega) ?_
    intro t6 k6
    (try dsimp only))
  k_with "CompSrc" => (
    refine LCg.CompSrc.ledger (by rfl) (by k_asm) (by k_asm) (.tail _ (.head _)) (by simp only [List.size_toArray, hlen]; unfold sizeLine; omega) ?_
    intro g7
    refine' comp_strs ((wrs xs).map SS) (by simp [wrs_eq, hlen]) ?turn ?fin
    case' turn =>
      intro i v I oI C oC D m₂ ys h tk E' y hi hy hv hC hx F N off ne
      have hv' : vs[i]? = some v := by simpa using hv
      obtain ⟨x9, hx8, hx9⟩ := ItsR.at xs vs hRs i v hv'
      have hO9 := (Oks_iff xs).mp hO5 x9 (List.mem_of_getElem? hx8)
      have hyx : y = SS (wr x9) := by
        rw [wrs_eq, List.map_map, List.getElem?_map, hx8] at hy
        simpa using hy.symm
      subst hyx
      (try k_fold)
    case' fin =>
      intro ys hys
      (unfold LCg.FinE)
      intro D7 h7 tk7 F7 N7 o7
      (try dsimp only))
  k_steps
  all_goals first
  | (refine' comp_end ?a ?b ?c ?d ?e
     case a => k_asm
     case b => k_asm
     case c => walk_at "my grown"
     case d => assumption
     case e => exact .inr ⟨_, .tail _ (.head _), rfl, _, rfl⟩)
  | skip
  all_goals (
    refine' hret _ _ _ _ ?a ?b ?c ?d
    case a => k_asm
    case b => k_asm
    case c => walk_at "my grown"
    case d => exact ⟨_, by rw [s_none, wr_text]; rfl⟩)

theorem written_br1 {w : World} {base : Heap} {d : Nat} (IH : WrCon w base d) {news : Led} {v : Value} {xs : List It} {c : Nat} (hR : ItR (· ∈ news) (.br (some c) xs) v) (hO : Ok (d + 1) (.br (some c) xs)) (hjl : (joinC (wrs xs)).length ≤ 100000) :
    Con w 97 [v] (d + 3) (16 * (d + 3)) base news (fun _ r => ∃ t, r = .str (SS (wr (.br (some c) xs))) t) := by
  simp only [ItR] at hR
  obtain ⟨a0, cv, l0, vs, rfl, hm, hc, hl, hRs⟩ := hR
  simp only [CntV] at hc
  obtain ⟨tc, hc⟩ := hc
  subst hc
  simp only [Ok] at hO
  obtain ⟨hO1, hO2, hO3, hO4, hO5⟩ := hO
  have hc3 : c ≤ 3 := Nat.le_succ_of_le (hO1 c rfl)
  have hlen := ItsR.len xs vs hRs
  have hjs : (SS (joinC (wrs xs))).length ≤ 100000 := by rw [SS_len]; exact hjl
  intro mean mg mb dp un gd cn cs a ccd cl outer A₀ h₀ L m s Q E B F X N T hk hd hu hret
  have g0 : Grown news ((a0, tupO [.int c tc, .ref l0]) :: (l0, lstO vs) :: news) := Grown.dup (Grown.dup (Grown.refl _) hl) (.tail _ hm)
  have N := News.dup (News.dup N hl) (.tail _ hm)
  refine wpAny_call ?_
  k_dflt (walk_at "my enter")
  k_with_none
  k_with "call ref" => (
    (with_reducible show wpAny _ _ (call (Value.ref 97) _) _ _ _)
    refine' con_use (IH _ _ x9 ?kR hO9) ?k1 ?k2 ?k3 ?k4 ?k5 ?kK ?kd ?ku ?_
    walk_at "my use"
    case kR => exact ItR.mono (fun p hp => by walk_at "my mem") _ _ hx9
    intro r9 news9 h9 tk9 F9 N9 g9 p9
    obtain ⟨t9, e9⟩ := p9
    subst e9
    (try dsimp only)
    (try k_fold))
  k_with "call builtin:str.join" => (
    refine join_call (gs := wrs xs) (by k_asm) (.head _) hys s_comma (by omega) ?_
    intro t6 k6
    (try dsimp only))
  k_with "CompSrc" => (
    refine LCg.CompSrc.ledger (by rfl) (by k_asm) (by k_asm) (.tail _ (.head _)) (by simp only [List.size_toArray, hlen]; unfold sizeLine; omega) ?_
    intro g7
    refine' comp_strs ((wrs xs).map SS) (by simp [wrs_eq, hlen]) ?turn ?fin
    case' turn =>
      intro i v I oI C oC D m₂ ys h tk E' y hi hy hv hC hx F N off ne
      have hv' : vs[i]? = some v := by simpa using hv
      obtain ⟨x9, hx8, hx9⟩ := ItsR.at xs vs hRs i v hv'
      have hO9 := (Oks_iff xs).mp hO5 x9 (List.mem_of_getElem? hx8)
      have hyx : y = SS (wr x9) := by
        rw [wrs_eq, List.map_map, List.getElem?_map, hx8] at hy
        simpa using hy.symm
      subst hyx
      (try k_fold)
    case' fin =>
      intro ys hys
      (unfold LCg.FinE)
      intro D7 h7 tk7 F7 N7 o7
      (try dsimp only))
  k_steps
  all_goals first
  | (refine' comp_end ?a ?b ?c ?d ?e
     case a => k_asm
     case b => k_asm
     case c => walk_at "my grown"
     case d => assumption
     case e => exact .inr ⟨_, .tail _ (.head _), rfl, _, rfl⟩)
  | skip
  all_goals (
    refine' hret _ _ _ _ ?a ?b ?c ?d
    case a => k_asm
    case b => k_asm
    case c => walk_at "my grown"
    case d => exact ⟨_, by rw [str_small hc3, s_star, SS_append, wr_text]; rfl⟩)

end Mine
end

section
open PySem PySem.W PySem.Spec PySem.Calls PyProof.Rows
set_option Elab.async false
set_option maxRecDepth 100000
set_option maxHeartbeats 8000000
set_option linter.unusedVariables false
namespace Mine
local macro_rules | `(tactic| walk_at "pad C6 0") => `(tactic| fail)
local macro_rules | `(tactic| walk_at "pad C6 1") => `(tactic| fail)
local macro_rules | `(tactic| walk_at "pad C6 2") => `(tactic| fail)
local macro_rules | `(tactic| walk_at "pad C6 3") => `(tactic| fail)
local macro_rules | `(tactic| walk_at "pad C6 4") => `(tactic| fail)
local macro_rules | `(tactic| walk_at "pad C6 5") => `(tactic| fail)
theorem kept_part6 (h : hd.heap_39 = hd.heap_39 → PySem.Challenge.rw_fc0017_01 = PySem.Challenge.rw_fc0017_01) : True := by
  revert h
  k_fill
  w_top off
  k_with_none
  intro _; trivial
local macro_rules | `(tactic| walk_at "my enter") => `(tactic| (refine' code_def ?k1 ?k2 ?k3 ?k4 ?k5 ?kA ?kF ?kK ?k6 ?k7 ?k8 ?k9 ?kB ?_ ?c2 ?c3 ?c4 ?c5; (case kA => exact rfl); (case kF => exact rfl); (case kK => assumption); (case k1 => k_asm); (case k2 => k_asm); (case k3 => k_asm); (case k4 => k_asm); (case k5 => k_asm); (case k6 => k_is); (case k7 => k_is); (case k8 => ktr_room); (case k9 => exact BindsTo.of_eq rfl); (case c5 => decide); (case kB => exact locs rfl); (case c2 => exact rfl); (case c3 => exact rfl); (case c4 => exact rfl); k_whole; intro g' L' h' FG' F' N' B' X' T'; (try dsimp only); (try k_lift B'); (try k_fold)))
local macro_rules | `(tactic| walk_at "my use") => `(tactic| ( (case k1 => k_asm); (case k2 => k_asm); (case k3 => k_asm); (case k4 => k_asm); (case k5 => k_asm); (case kK => first | exact rfl | assumption); (case kd => ktr_room); (case ku => ktr_units)))
local macro_rules | `(tactic| walk_at "call ref") => `(tactic| (k_here; k_extra "call ref"))
local macro_rules | `(tactic| walk_at "pyIter ref") => `(tactic| (k_here; k_extra "pyIter ref"))
local macro_rules | `(tactic| walk_at "exec For Name Call cons nil") => `(tactic| (k_here; k_extra "exec For Name Call cons nil"))
local macro_rules | `(tactic| walk_at "my lt") => `(tactic| first | exact ne_of_allLt (by assumption) | exact ne_of_allLt (allLt_of (by assumption)) | exact ne_of_off1 (by assumption))
local macro_rules | `(tactic| walk_at "my grown") => `(tactic| first | assumption | exact Grown.refl _ | exact Grown.trans (by assumption) (by assumption) | (refine Grown.cons ?_ ?_; (walk_at "my grown"); (walk_at "my lt")) | (refine Grown.dup ?_ ?_; (walk_at "my grown"); (walk_at "my mem")))
local macro_rules | `(tactic| walk_at "my fresh") => `(tactic| first | exact fresh_head (by walk_at "my grown") (by walk_at "my lt") | (refine Fresh.tail ?_; walk_at "my fresh"))
local macro_rules | `(tactic| walk_at "my mem") => `(tactic| first | exact .head _ | assumption | (refine .tail _ ?_; walk_at "my mem") | (refine Grown.sub (by assumption) _ ?_; walk_at "my mem"))
local macro_rules | `(tactic| walk_at "my fit") => `(tactic| k_extra "my fit")
local macro_rules | `(tactic| walk_at "binaryOp Add") => `(tactic| (k_here; (with_reducible show wpAny _ _ (binaryOp Operator.Add (Value.ref _) (Value.ref _)) _ _ _); refine' add_two ?k1 ?k2 ?k3 ?k4 ?k5 ?_; (case k1 => k_asm); (case k2 => k_asm); (case k3 => walk_at "my mem"); (case k4 => walk_at "my mem"); (case k5 => walk_at "my fit"); k_whole; intro a9' h9' F9' N9' l9'))
local macro_rules | `(tactic| walk_at "eval ListComp") => `(tactic| (k_here; k_dflt (refine LCg.ListComp_U (F₀ := by k_asm) (by rfl) (by decide) (by rfl) (by decide) (by rfl) ?_)))
local macro_rules | `(tactic| walk_at "CompSrc") => `(tactic| (k_extra "CompSrc"))
local macro_rules | `(tactic| walk_at "call builtin:str.join") => `(tactic| (k_here; k_extra "call builtin:str.join"))

theorem written_tok0 {w : World} {base : Heap} {d : Nat} {news : Led} {v : Value} {x : List Nat} (hR : ItR (· ∈ news) (.tok none x) v) (hO : Ok d (.tok none x)) :
    Con w 97 [v] 2 32 base news (fun _ r => ∃ t, r = .str (SS (wr (.tok none x))) t) := by
  simp only [ItR] at hR
  obtain ⟨a0, cv, t0, rfl, hm, hc⟩ := hR
  simp only [CntV] at hc
  subst hc
  simp only [Ok] at hO
  obtain ⟨hO1, hO2⟩ := hO
  
  have hjs : (SS x).length ≤ 100000 := by rw [SS_len]; have := (word_len hO2).1; omega
  intro mean mg mb dp un gd cn cs a ccd cl outer A₀ h₀ L m s Q E B F X N T hk hd hu hret
  have g0 : Grown news ((a0, tupO [.none, .str (SS x) t0]) :: news) := Grown.dup (Grown.refl _) hm
  have N := News.dup N hm
  refine wpAny_call ?_
  k_dflt (walk_at "my enter")
  k_with_none
  k_steps
  all_goals (
    refine' hret _ _ _ _ ?a ?b ?c ?d
    case a => k_asm
    case b => k_asm
    case c => walk_at "my grown"
    case d => exact ⟨_, by rw [s_none, SS_append]; rfl⟩)

theorem written_tok1 {w : World} {base : Heap} {d : Nat} {news : Led} {v : Value} {x : List Nat} {c : Nat} (hR : ItR (· ∈ news) (.tok (some c) x) v) (hO : Ok d (.tok (some c) x)) :
    Con w 97 [v] 2 32 base news (fun _ r => ∃ t, r = .str (SS (wr (.tok (some c) x))) t) := by
  simp only [ItR] at hR
  obtain ⟨a0, cv, t0, rfl, hm, hc⟩ := hR
  simp only [CntV] at hc
  obtain ⟨tc, hc⟩ := hc
  subst hc
  simp only [Ok] at hO
  obtain ⟨hO1, hO2⟩ := hO
  have hc3 : c ≤ 3 := hO1 c rfl
  have hjs : (SS x).length ≤ 100000 := by rw [SS_len]; have := (word_len hO2).1; omega
  intro mean mg mb dp un gd cn cs a ccd cl outer A₀ h₀ L m s Q E B F X N T hk hd hu hret
  have g0 : Grown news ((a0, tupO [.int c tc, .str (SS x) t0]) :: news) := Grown.dup (Grown.refl _) hm
  have N := News.dup N hm
  refine wpAny_call ?_
  k_dflt (walk_at "my enter")
  k_with_none
  k_steps
  all_goals (
    refine' hret _ _ _ _ ?a ?b ?c ?d
    case a => k_asm
    case b => k_asm
    case c => walk_at "my grown"
    case d => exact ⟨_, by rw [str_small hc3, s_star, SS_append, SS_append]; rfl⟩)

theorem Con.weaken {w : World} {f : Addr} {vs : List Value} {dep dep' un un' : Nat} {base : Heap} {news : Led} {Post : (Addr × Obj → Prop) → Value → Prop} (C : Con w f vs dep un base news Post) (h1 : dep ≤ dep') (h2 : un ≤ un') : Con w f vs dep' un' base news Post :=
  fun mean mg mb dp u gd cn cs a ccd cl outer A₀ h₀ L m s Q E B F X N T hk hd hu hret => C mean mg mb dp u gd cn cs a ccd cl outer A₀ h₀ L m s Q E B F X N T hk (by omega) (by omega) hret
theorem small_wr {d : Nat} {c : Option Nat} {xs : List It} (hd : d + 1 ≤ 2) (h : Ok (d + 1) (.br c xs)) : (joinC (wrs xs)).length ≤ 100000 := by
  have h1 := cost_le _ _ h
  have h2 := wrs_le xs
  have h3 : cb (d + 1) ≤ 808 := by
    match d, hd with
    | 0, _ => decide
    | 1, _ => decide
  have h4 : costs xs ≤ cost (.br c xs) := by
    cases c with
    | none => rw [cost]; omega
    | some c =>
      rw [cost]
      have : costs xs + 1 ≤ (c + 1) * (costs xs + 1) := Nat.le_mul_of_pos_left _ (Nat.succ_pos c)
      omega
  omega
theorem written_ok {w : World} {base : Heap} : ∀ d, d ≤ 2 → WrCon w base d
  | d, hd, news, v, .tok none x, hR, hO => (written_tok0 hR hO).weaken (by omega) (by omega)
  | d, hd, news, v, .tok (some c) x, hR, hO => (written_tok1 hR hO).weaken (by omega) (by omega)
  | 0, hd, news, v, .br c xs, hR, hO => by simp only [Ok] at hO; omega
  | d + 1, hd, news, v, .br none xs, hR, hO => (written_br0 (written_ok d (by omega)) hR hO (small_wr hd hO)).weaken (by omega) (by omega)
  | d + 1, hd, news, v, .br (some c) xs, hR, hO => (written_br1 (written_ok d (by omega)) hR hO (small_wr hd hO)).weaken (by omega) (by omega)

end Mine
end

section
open PySem PySem.W PySem.Spec PySem.Calls PyProof.Rows
set_option Elab.async false
set_option maxRecDepth 100000
set_option maxHeartbeats 8000000
set_option linter.unusedVariables false
namespace Mine
local macro_rules | `(tactic| walk_at "pad C7 0") => `(tactic| fail)
local macro_rules | `(tactic| walk_at "pad C7 1") => `(tactic| fail)
local macro_rules | `(tactic| walk_at "pad C7 2") => `(tactic| fail)
local macro_rules | `(tactic| walk_at "pad C7 3") => `(tactic| fail)
local macro_rules | `(tactic| walk_at "pad C7 4") => `(tactic| fail)
local macro_rules | `(tactic| walk_at "pad C7 5") => `(tactic| fail)
local macro_rules | `(tactic| walk_at "pad C7 6") => `(tactic| fail)
theorem kept_part7 (h : hd.heap_39 = hd.heap_39 → PySem.Challenge.rw_fc0017_01 = PySem.Challenge.rw_fc0017_01) : True := by
  revert h
  k_fill
  w_top off
  k_with_none
  intro _; trivial
local macro_rules | `(tactic| walk_at "my enter") => `(tactic| (refine' code_def ?k1 ?k2 ?k3 ?k4 ?k5 ?kA ?kF ?kK ?k6 ?k7 ?k8 ?k9 ?kB ?_ ?c2 ?c3 ?c4 ?c5; (case kA => exact rfl); (case kF => exact rfl); (case kK => assumption); (case k1 => k_asm); (case k2 => k_asm); (case k3 => k_asm); (case k4 => k_asm); (case k5 => k_asm); (case k6 => k_is); (case k7 => k_is); (case k8 => ktr_room); (case k9 => exact BindsTo.of_eq rfl); (case c5 => decide); (case kB => exact locs rfl); (case c2 => exact rfl); (case c3 => exact rfl); (case c4 => exact rfl); k_whole; intro g' L' h' FG' F' N' B' X' T'; (try dsimp only); (try k_lift B'); (try k_fold)))
local macro_rules | `(tactic| walk_at "my use") => `(tactic| ( (case k1 => k_asm); (case k2 => k_asm); (case k3 => k_asm); (case k4 => k_asm); (case k5 => k_asm); (case kK => first | exact rfl | assumption); (case kd => ktr_room); (case ku => ktr_units)))
local macro_rules | `(tactic| walk_at "call ref") => `(tactic| (k_here; k_extra "call ref"))
local macro_rules | `(tactic| walk_at "pyIter ref") => `(tactic| (k_here; k_extra "pyIter ref"))
local macro_rules | `(tactic| walk_at "exec For Name Call cons nil") => `(tactic| (k_here; k_extra "exec For Name Call cons nil"))
local macro_rules | `(tactic| walk_at "my lt") => `(tactic| first | exact ne_of_allLt (by assumption) | exact ne_of_allLt (allLt_of (by assumption)) | exact ne_of_off1 (by assumption))
local macro_rules | `(tactic| walk_at "my grown") => `(tactic| first | assumption | exact Grown.refl _ | exact Grown.trans (by assumption) (by assumption) | (refine Grown.cons ?_ ?_; (walk_at "my grown"); (walk_at "my lt")) | (refine Grown.dup ?_ ?_; (walk_at "my grown"); (walk_at "my mem")))
local macro_rules | `(tactic| walk_at "my fresh") => `(tactic| first | exact fresh_head (by walk_at "my grown") (by walk_at "my lt") | (refine Fresh.tail ?_; walk_at "my fresh"))
local macro_rules | `(tactic| walk_at "my mem") => `(tactic| first | exact .head _ | assumption | (refine .tail _ ?_; walk_at "my mem") | (refine Grown.sub (by assumption) _ ?_; walk_at "my mem"))
local macro_rules | `(tactic| walk_at "my fit") => `(tactic| k_extra "my fit")
local macro_rules | `(tactic| walk_at "binaryOp Add") => `(tactic| (k_here; (with_reducible show wpAny _ _ (binaryOp Operator.Add (Value.ref _) (Value.ref _)) _ _ _); refine' add_two ?k1 ?k2 ?k3 ?k4 ?k5 ?_; (case k1 => k_asm); (case k2 => k_asm); (case k3 => walk_at "my mem"); (case k4 => walk_at "my mem"); (case k5 => walk_at "my fit"); k_whole; intro a9' h9' F9' N9' l9'))
local macro_rules | `(tactic| walk_at "eval ListComp") => `(tactic| (k_here; k_dflt (refine LCg.ListComp_U (F₀ := by k_asm) (by rfl) (by decide) (by rfl) (by decide) (by rfl) ?_)))
local macro_rules | `(tactic| walk_at "CompSrc") => `(tactic| (k_extra "CompSrc"))
local macro_rules | `(tactic| walk_at "call builtin:str.join") => `(tactic| (k_here; k_extra "call builtin:str.join"))

theorem strs_rep {J : List Nat} {t : Tok} : ∀ n : Nat, StrsAre (List.replicate n [Value.str (SS J) t]).flatten (List.replicate n (SS J))
  | 0 => .nil
  | n + 1 => by
    rw [List.replicate_succ, List.flatten_cons, List.replicate_succ]
    exact .cons _ _ (strs_rep n)
theorem join_rep {prog : Program} {w : World} {A : Around} {E : Value → Shared → Prop} {s : Shared} {D : Addr} {c : Nat} {J : List Nat} {t6 : Tok} {x : Str} {t : Tok} {Q : Value → Shared → Prop}
    (hl : s.heap.IsList D (List.replicate (c : Int).toNat (#[Value.str (SS J) t6] : Array Value).toList).flatten.toArray) (hx : x = SS [44]) (hc : c ≤ 2) (hJ : J.length ≤ 100000)
    (h : ∀ t' k, Q (.str (SS (joinC (List.replicate c J))) t') { s with toks := k }) : wpAny (model prog w) A (call (.builtin "str.join") [.str x t, .ref D]) Q E s := by
  subst hx
  have h1 : (SS [44]).length = 1 := rfl
  rw [Int.toNat_natCast] at hl
  refine join_list hl (by simpa using strs_rep (J := J) (t := t6) c) ?_ ?_
  · rw [h1]
    simp only [List.map_replicate, List.sum_replicate_nat, List.length_replicate, SS_len]
    have : c * J.length ≤ 2 * 100000 := Nat.mul_le_mul hc hJ
    omega
  · have e := SS_join (List.replicate c J)
    rw [List.map_replicate] at e
    rw [e]
    exact h

/-- what _law_flat hands back -/
def FlCon (w : World) (base : Heap) (d : Nat) : Prop :=
  ∀ (news : Led) (v : Value) (x : It), ItR (· ∈ news) x v → Ok d x → Con w 102 [v] (d + 3) (16 * (d + 3)) base news (fun _ r => ∃ t, r = .str (SS (fl x)) t)

theorem flat_br0 {w : World} {base : Heap} {d : Nat} (IH : FlCon w base d) {news : Led} {v : Value} {xs : List It} (hR : ItR (· ∈ news) (.br none xs) v) (hO : Ok (d + 1) (.br none xs)) (hjl : (joinC (fls xs)).length ≤ 100000) :
    Con w 102 [v] (d + 4) (16 * (d + 4)) base news (fun _ r => ∃ t, r = .str (SS (fl (.br none xs))) t) := by
  simp only [ItR] at hR
  obtain ⟨a0, cv, l0, vs, rfl, hm, hc, hl, hRs⟩ := hR
  simp only [CntV] at hc
  subst hc
  simp only [Ok] at hO
  obtain ⟨hO1, hO2, hO3, hO4, hO5⟩ := hO
  
  have hlen := ItsR.len xs vs hRs
  have hjs : (SS (joinC (fls xs))).length ≤ 100000 := by rw [SS_len]; exact hjl
  intro mean mg mb dp un gd cn cs a ccd cl outer A₀ h₀ L m s Q E B F X N T hk hd hu hret
  have g0 : Grown news ((a0, tupO [.none, .ref l0]) :: (l0, lstO vs) :: news) := Grown.dup (Grown.dup (Grown.refl _) hl) (.tail _ hm)
  have N := News.dup (News.dup N hl) (.tail _ hm)
  refine wpAny_call ?_
  k_dflt (walk_at "my enter")
  k_with_none
  k_with "call ref" => (
    (with_reducible show wpAny _ _ (call (Value.ref 102) _) _ _ _)
    refine' con_use (IH _ _ x9 ?kR hO9) ?k1 ?k2 ?k3 ?k4 ?k5 ?kK ?kd ?ku ?_
    walk_at "my use"
    case kR => exact ItR.mono (fun p hp => by walk_at "my mem") _ _ hx9
    intro r9 news9 h9 tk9 F9 N9 g9 p9
    obtain ⟨t9, e9⟩ := p9
    subst e9
    (try dsimp only)
    (try k_fold))
  k_with "call builtin:str.join" => (
    refine join_call (gs := fls xs) (by k_asm) (.head _) hys s_comma (by omega) ?_
    intro t6 k6
    (try dsimp only))
  k_with "CompSrc" => (
    refine LCg.CompSrc.ledger (by rfl) (by k_asm) (by k_asm) (.tail _ (.head _)) (by simp only [List.size_toArray, hlen]; unfold sizeLine; omega) ?_
    intro g7
    refine' comp_strs ((fls xs).map SS) (by simp [fls_eq, hlen]) ?turn ?fin
    case' turn =>
      intro i v I oI C oC D m₂ ys h tk E' y hi hy hv hC hx F N off ne
      have hv' : vs[i]? = some v := by simpa using hv
      obtain ⟨x9, hx8, hx9⟩ := ItsR.at xs vs hRs i v hv'
      have hO9 := (Oks_iff xs).mp hO5 x9 (List.mem_of_getElem? hx8)
      have hyx : y = SS (fl x9) := by
        rw [fls_eq, List.map_map, List.getElem?_map, hx8] at hy
        simpa using hy.symm
      subst hyx
      (try k_fold)
    case' fin =>
      intro ys hys
      (unfold LCg.FinE)
      intro D7 h7 tk7 F7 N7 o7
      (try dsimp only))
  
  k_steps
  all_goals (try k_data)
  all_goals first
  | (refine' comp_end ?fa ?fb ?fc ?fd ?fe
     case fa => k_asm
     case fb => k_asm
     case fc => walk_at "my grown"
     case fd => assumption
     case fe => exact .inr ⟨_, .tail _ (.head _), rfl, _, rfl⟩)
  | skip
  all_goals (
    refine' hret _ _ _ _ ?ea ?eb ?ec ?ed
    case ea => k_asm
    case eb => k_asm
    case ec => walk_at "my grown"
    case ed => exact ⟨_, by rw [fl]⟩)

theorem flat_br1 {w : World} {base : Heap} {d : Nat} (IH : FlCon w base d) {news : Led} {v : Value} {xs : List It} {c : Nat} (hR : ItR (· ∈ news) (.br (some c) xs) v) (hO : Ok (d + 1) (.br (some c) xs)) (hjl : (joinC (fls xs)).length ≤ 100000) :
    Con w 102 [v] (d + 4) (16 * (d + 4)) base news (fun _ r => ∃ t, r = .str (SS (fl (.br (some c) xs))) t) := by
  simp only [ItR] at hR
  obtain ⟨a0, cv, l0, vs, rfl, hm, hc, hl, hRs⟩ := hR
  simp only [CntV] at hc
  obtain ⟨tc, hc⟩ := hc
  subst hc
  simp only [Ok] at hO
  obtain ⟨hO1, hO2, hO3, hO4, hO5⟩ := hO
  have hc3 : c ≤ 2 := hO1 c rfl
  have hlen := ItsR.len xs vs hRs
  have hjs : (SS (joinC (fls xs))).length ≤ 100000 := by rw [SS_len]; exact hjl
  intro mean mg mb dp un gd cn cs a ccd cl outer A₀ h₀ L m s Q E B F X N T hk hd hu hret
  have g0 : Grown news ((a0, tupO [.int c tc, .ref l0]) :: (l0, lstO vs) :: news) := Grown.dup (Grown.dup (Grown.refl _) hl) (.tail _ hm)
  have N := News.dup (News.dup N hl) (.tail _ hm)
  refine wpAny_call ?_
  k_dflt (walk_at "my enter")
  k_with_none
  k_with "call ref" => (
    (with_reducible show wpAny _ _ (call (Value.ref 102) _) _ _ _)
    refine' con_use (IH _ _ x9 ?kR hO9) ?k1 ?k2 ?k3 ?k4 ?k5 ?kK ?kd ?ku ?_
    walk_at "my use"
    case kR => exact ItR.mono (fun p hp => by walk_at "my mem") _ _ hx9
    intro r9 news9 h9 tk9 F9 N9 g9 p9
    obtain ⟨t9, e9⟩ := p9
    subst e9
    (try dsimp only)
    (try k_fold))
  k_with "call builtin:str.join" => (
    refine join_call (gs := fls xs) (by k_asm) (.head _) hys s_comma (by omega) ?_
    intro t6 k6
    (try dsimp only))
  k_with "CompSrc" => (
    refine LCg.CompSrc.ledger (by rfl) (by k_asm) (by k_asm) (.tail _ (.head _)) (by simp only [List.size_toArray, hlen]; unfold sizeLine; omega) ?_
    intro g7
    refine' comp_strs ((fls xs).map SS) (by simp [fls_eq, hlen]) ?turn ?fin
    case' turn =>
      intro i v I oI C oC D m₂ ys h tk E' y hi hy hv hC hx F N off ne
      have hv' : vs[i]? = some v := by simpa using hv
      obtain ⟨x9, hx8, hx9⟩ := ItsR.at xs vs hRs i v hv'
      have hO9 := (Oks_iff xs).mp hO5 x9 (List.mem_of_getElem? hx8)
      have hyx : y = SS (fl x9) := by
        rw [fls_eq, List.map_map, List.getElem?_map, hx8] at hy
        simpa using hy.symm
      subst hyx
      (try k_fold)
    case' fin =>
      intro ys hys
      (unfold LCg.FinE)
      intro D7 h7 tk7 F7 N7 o7
      (try dsimp only))
  k_with "call builtin:str.join" => (
    refine join_rep (c := c) (by assumption) s_comma hc3 hjl ?_
    intro t5 k5
    (try dsimp only))
  k_steps
  all_goals (try k_data)
  all_goals first
  | (refine' comp_end ?fa ?fb ?fc ?fd ?fe
     case fa => k_asm
     case fb => k_asm
     case fc => walk_at "my grown"
     case fd => assumption
     case fe => exact .inr ⟨_, .tail _ (.head _), rfl, _, rfl⟩)
  | skip
  all_goals (
    refine' hret _ _ _ _ ?ea ?eb ?ec ?ed
    case ea => k_asm
    case eb => k_asm
    case ec => walk_at "my grown"
    case ed => exact ⟨_, by rw [fl]⟩)

theorem flat_tok {w : World} {base : Heap} {d : Nat} (hd2 : d ≤ 2) {news : Led} {v : Value} {x : List Nat} {c : Option Nat} (hR : ItR (· ∈ news) (.tok c x) v) (hO : Ok d (.tok c x)) :
    Con w 102 [v] (d + 3) (16 * (d + 3)) base news (fun _ r => ∃ t, r = .str (SS (fl (.tok c x))) t) := by
  have hR0 := hR
  simp only [ItR] at hR
  obtain ⟨a0, cv, t0, rfl, hm, hc⟩ := hR
  intro mean mg mb dp un gd cn cs a ccd cl outer A₀ h₀ L m s Q E B F X N T hk hd hu hret
  have g0 : Grown news ((a0, tupO [cv, .str (SS x) t0]) :: news) := Grown.dup (Grown.refl _) hm
  have N := News.dup N hm
  refine wpAny_call ?_
  k_dflt (walk_at "my enter")
  k_with_none
  k_with "call ref" => (
    (with_reducible show wpAny _ _ (call (Value.ref 97) _) _ _ _)
    refine' con_use (written_ok (base := base) d hd2 _ _ (.tok c x) ?kR hO) ?k1 ?k2 ?k3 ?k4 ?k5 ?kK ?kd ?ku ?_
    walk_at "my use"
    case kR => exact ItR.mono (fun p hp => by walk_at "my mem") _ _ hR0
    intro r9 news9 h9 tk9 F9 N9 g9 p9
    obtain ⟨t9, e9⟩ := p9
    subst e9
    (try dsimp only)
    (try k_fold))
  k_steps
  all_goals (try k_data)
  all_goals (
    refine' hret _ _ _ _ ?ea ?eb ?ec ?ed
    case ea => k_asm
    case eb => k_asm
    case ec => walk_at "my grown"
    case ed => exact ⟨_, by rw [fl, wr]⟩)
theorem small_fl {d : Nat} {c : Option Nat} {xs : List It} (hd : d + 1 ≤ 2) (h : Ok (d + 1) (.br c xs)) : (joinC (fls xs)).length ≤ 100000 := by
  have h1 := cost_le _ _ h
  have h2 := fls_le xs
  have h3 : cb (d + 1) ≤ 808 := by
    match d, hd with
    | 0, _ => decide
    | 1, _ => decide
  have h4 : costs xs ≤ cost (.br c xs) := by
    cases c with
    | none => rw [cost]; omega
    | some c =>
      rw [cost]
      have : costs xs + 1 ≤ (c + 1) * (costs xs + 1) := Nat.le_mul_of_pos_left _ (Nat.succ_pos c)
      omega
  omega
theorem flat_ok {w : World} {base : Heap} : ∀ d, d ≤ 2 → FlCon w base d
  | d, hd, news, v, .tok c x, hR, hO => flat_tok hd hR hO
  | 0, hd, news, v, .br c xs, hR, hO => by simp only [Ok] at hO; omega
  | d + 1, hd, news, v, .br none xs, hR, hO => (flat_br0 (flat_ok d (by omega)) hR hO (small_fl hd hO)).weaken (by omega) (by omega)
  | d + 1, hd, news, v, .br (some c) xs, hR, hO => (flat_br1 (flat_ok d (by omega)) hR hO (small_fl hd hO)).weaken (by omega) (by omega)

end Mine
end

section
open PySem PySem.W PySem.Spec PySem.Calls PyProof.Rows
set_option Elab.async false
set_option maxRecDepth 100000
set_option maxHeartbeats 8000000
set_option linter.unusedVariables false
namespace Mine
local macro_rules | `(tactic| walk_at "pad C8 0") => `(tactic| fail)
local macro_rules | `(tactic| walk_at "pad C8 1") => `(tactic| fail)
local macro_rules | `(tactic| walk_at "pad C8 2") => `(tactic| fail)
local macro_rules | `(tactic| walk_at "pad C8 3") => `(tactic| fail)
local macro_rules | `(tactic| walk_at "pad C8 4") => `(tactic| fail)
local macro_rules | `(tactic| walk_at "pad C8 5") => `(tactic| fail)
local macro_rules | `(tactic| walk_at "pad C8 6") => `(tactic| fail)
local macro_rules | `(tactic| walk_at "pad C8 7") => `(tactic| fail)
theorem kept_part8 (h : hd.heap_39 = hd.heap_39 → PySem.Challenge.rw_fc0017_01 = PySem.Challenge.rw_fc0017_01) : True := by
  revert h
  k_fill
  w_top off
  k_with_none
  intro _; trivial
local macro_rules | `(tactic| walk_at "my enter") => `(tactic| (refine' code_def ?k1 ?k2 ?k3 ?k4 ?k5 ?kA ?kF ?kK ?k6 ?k7 ?k8 ?k9 ?kB ?_ ?c2 ?c3 ?c4 ?c5; (case kA => exact rfl); (case kF => exact rfl); (case kK => assumption); (case k1 => k_asm); (case k2 => k_asm); (case k3 => k_asm); (case k4 => k_asm); (case k5 => k_asm); (case k6 => k_is); (case k7 => k_is); (case k8 => ktr_room); (case k9 => exact BindsTo.of_eq rfl); (case c5 => decide); (case kB => exact locs rfl); (case c2 => exact rfl); (case c3 => exact rfl); (case c4 => exact rfl); k_whole; intro g' L' h' FG' F' N' B' X' T'; (try dsimp only); (try k_lift B'); (try k_fold)))
local macro_rules | `(tactic| walk_at "my use") => `(tactic| ( (case k1 => k_asm); (case k2 => k_asm); (case k3 => k_asm); (case k4 => k_asm); (case k5 => k_asm); (case kK => first | exact rfl | assumption); (case kd => ktr_room); (case ku => ktr_units)))
local macro_rules | `(tactic| walk_at "call ref") => `(tactic| (k_here; k_extra "call ref"))
local macro_rules | `(tactic| walk_at "pyIter ref") => `(tactic| (k_here; k_extra "pyIter ref"))
local macro_rules | `(tactic| walk_at "exec For Name Call cons nil") => `(tactic| (k_here; k_extra "exec For Name Call cons nil"))
local macro_rules | `(tactic| walk_at "exec For Name Name cons nil") => `(tactic| (k_here; (rename Fr _ _ _ _ => lF9); (with_unfolding_all refine' For_invVF lF9 ?k1 ?k2 ?_; (case k1 => exact rfl); (case k2 => exact rfl); k_whole)))
local macro_rules | `(tactic| walk_at "my lt") => `(tactic| first | exact ne_of_allLt (by assumption) | exact ne_of_allLt (allLt_of (by assumption)) | exact ne_of_off1 (by assumption))
local macro_rules | `(tactic| walk_at "my grown") => `(tactic| first | assumption | exact Grown.refl _ | exact Grown.trans (by assumption) (by assumption) | (refine Grown.cons ?_ ?_; (walk_at "my grown"); (walk_at "my lt")) | (refine Grown.dup ?_ ?_; (walk_at "my grown"); (walk_at "my mem")))
local macro_rules | `(tactic| walk_at "my fresh") => `(tactic| first | exact fresh_head (by walk_at "my grown") (by walk_at "my lt") | (refine Fresh.tail ?_; walk_at "my fresh"))
local macro_rules | `(tactic| walk_at "my mem") => `(tactic| first | exact .head _ | assumption | (refine .tail _ ?_; walk_at "my mem") | (refine Grown.sub (by assumption) _ ?_; walk_at "my mem"))
local macro_rules | `(tactic| walk_at "my fit") => `(tactic| k_extra "my fit")
local macro_rules | `(tactic| walk_at "binaryOp Add") => `(tactic| (k_here; (with_reducible show wpAny _ _ (binaryOp Operator.Add (Value.ref _) (Value.ref _)) _ _ _); refine' add_two ?k1 ?k2 ?k3 ?k4 ?k5 ?_; (case k1 => k_asm); (case k2 => k_asm); (case k3 => walk_at "my mem"); (case k4 => walk_at "my mem"); (case k5 => walk_at "my fit"); k_whole; intro a9' h9' F9' N9' l9'))
local macro_rules | `(tactic| walk_at "eval ListComp") => `(tactic| (k_here; k_dflt (refine LCg.ListComp_U (F₀ := by k_asm) (by rfl) (by decide) (by rfl) (by decide) (by rfl) ?_)))
local macro_rules | `(tactic| walk_at "CompSrc") => `(tactic| (k_extra "CompSrc"))
local macro_rules | `(tactic| walk_at "call builtin:str.join") => `(tactic| (k_here; k_extra "call builtin:str.join"))
local macro_rules | `(tactic| walk_at "binaryOp Mult ref int") => `(tactic| (k_here; k_extra "binaryOp Mult ref int"))
/-- the end of a turn of a loop over a list of the ledger's; I is the iterator -/
def VEnd (h₀ : Heap) (L : Addr) (J : (Str → Option Value) → List (Addr × Obj) → Prop) (own : Led) (I : Addr) (s₁ s₂ : Shared) : Prop :=
  ∃ h' tk m' news' nx, s₂ = { s₁ with heap := h', toks := tk } ∧ Fr h₀ L h' m' ∧ News h₀ L h' news' ∧ (∀ p ∈ nx, p ∈ news') ∧ (∀ p ∈ own, p ∈ news') ∧ (∀ q ∈ nx, q.1 ≠ I) ∧ J m' nx
def VPost (h₀ : Heap) (L : Addr) (J : (Str → Option Value) → List (Addr × Obj) → Prop) (own : Led) (I : Addr) (s₁ : Shared) (Q : Flow → Shared → Prop) (f : Flow) (s₂ : Shared) : Prop :=
  match f with
  | .ret v => Q (.ret v) s₂
  | .brk => Q .next s₂
  | _ => VEnd h₀ L J own I s₁ s₂

theorem val_loop {prog : Program} {w : World} {A : Around} {E : Value → Shared → Prop} {s : Shared} {env : Env} {h₀ : Heap} {x : Str} {body : List Stmt} {Q : Flow → Shared → Prop} {l : Addr} {vs : List Value} {kk : Nat} {m₀ : Str → Option Value} {news : Led}
    (J : (Str → Option Value) → Nat → (Str → Option Value) → List (Addr × Obj) → Prop)
    (hh : A.handled = none) (hm : (l, ({ cls := .type "list", data := .seq vs.toArray kk } : Obj)) ∈ news) (F : Fr h₀ env.locals s.heap m₀) (N : News h₀ env.locals s.heap news) (hj : J m₀ 0 m₀ news)
    (turn : ∀ i v m₁ nx h tk own I, vs[i]? = some v → (∀ q ∈ nx, q.1 ≠ I) → (∀ p ∈ own, p.1 = I ∨ p.1 = l) → (∃ p ∈ own, p.1 = I) → J m₀ i m₁ nx → Fr h₀ env.locals h (fun y => if y = x then some v else m₁ y) → News h₀ env.locals h (nx ++ own) →
      wpAny (model prog w) A (execs body env) (VPost h₀ env.locals (J m₀ (i + 1)) own I { s with heap := h, toks := tk } Q) E { s with heap := h, toks := tk })
    (done : ∀ m₁ nx h tk, J m₀ vs.length m₁ nx → Fr h₀ env.locals h m₁ → News h₀ env.locals h nx → Q .next { s with heap := h, toks := tk }) :
    wpAny (model prog w) A (pyIter (.ref l)) (fun it s₂ => LoopAtV prog w A h₀ env x body Q E it s₂) E s := by
  have hls : s.heap.IsList l vs.toArray := ⟨_, (N _ hm).1, rfl, _, rfl⟩
  have hlt : l < s.heap.objs.size := Heap.lt_size (N _ hm).1
  refine wpAny_pyIter_list hls ?_
  have W := Walks.list (prog := prog) (w := w) hh s.heap.objs.size l (Nat.ne_of_lt hlt) vs.toArray
  rw [List.size_toArray] at W
  refine ⟨_, _, _, vs.length, _, _, m₀, news, J m₀, rfl, W, ?_, ?_, ?_, ⟨⟨_, Heap.get?_push_size _ rfl, rfl, rfl⟩, hls.at fun o e => Heap.get?_push_of_some _ e⟩, F.push _, (fun p hp => ⟨Heap.get?_push_of_some _ (N p hp).1, (N p hp).2⟩), hj, ?_, ?_⟩
  · intro hm'
    rcases List.mem_cons.mp hm' with e | hm'
    · exact absurd F.ns.lt (e ▸ Nat.lt_irrefl _)
    · exact (N _ hm).2.1 (List.mem_singleton.mp hm').symm
  · intro b hb
    rw [List.mem_singleton.mp hb]
    exact next_is_new F
  · intro p hp hI
    exact absurd (Heap.lt_size (N p hp).1) ((List.mem_singleton.mp hI) ▸ Nat.lt_irrefl _)
  · rintro i v m₁ news₁ s₁ own ⟨hh', tk', rfl⟩ hin hP hJ hoff hown _ hmem hst F₁ N₁
    have hv : vs[i]? = some v := by simpa using hP
    have N₂ : News h₀ env.locals hh' (news₁ ++ own) := fun p hp => N₁ p ((List.mem_append.mp hp).elim (fun h => List.mem_append.mpr (.inr h)) fun h => List.mem_append.mpr (.inl h))
    refine wpAny_mono (turn i v m₁ news₁ hh' tk' own s.heap.objs.size hv (fun q hq e => hoff q hq (List.mem_singleton.mpr e)) (fun p hp => by
      rcases List.mem_cons.mp (hown p hp) with h | h
      · exact .inl h
      · exact .inr (List.mem_singleton.mp h)) (by
        obtain ⟨⟨oi, hoi, _⟩, _⟩ := hst
        exact ⟨(s.heap.objs.size, oi), hmem _ (.head _) (next_is_new F) oi hoi, rfl⟩) hJ F₁ N₂) (fun f s₂ p => ?_) fun _ _ e => e
    have fin : VEnd h₀ env.locals (J m₀ (i + 1)) own s.heap.objs.size { s with heap := hh', toks := tk' } s₂ → LoopStepU h₀ env.locals [s.heap.objs.size] own (J m₀ (i + 1)) { s with heap := hh', toks := tk' } .next s₂ := by
      rintro ⟨h', tk, m', news', nx, e, F', N', hn, ho, ha, hm⟩
      exact ⟨rfl, h', tk, m', nx, e, F', fun p hp => N' p ((List.mem_append.mp hp).elim (ho p) (hn p)), fun p hp hq => ha p hp (List.mem_singleton.mp hq), hm⟩
    cases f with
    | ret v => exact .ret p
    | brk => exact .brk p
    | next => exact .next (fin p)
    | cont => exact .cont (fin p)
  · rintro h' tk m' news' F' N' _ hJ
    exact done m' news' h' tk hJ F' N'

theorem v_fresh {news nx own big : Led} {I l : Addr} {o : Obj} {h₀ h : Heap} {L : Addr} (g0 : Grown news nx) (hI : ∀ q ∈ nx, q.1 ≠ I) (g : Grown (nx ++ own) big) (hl : (l, o) ∈ news) (N : News h₀ L h (nx ++ own)) (hi' : ∀ p ∈ own, p.1 = I ∨ p.1 = l) (hex : ∃ p ∈ own, p.1 = I) :
    Grown news (big.filter fun p => decide (p.1 ≠ I)) ∧ (∀ p, Fresh news nx p → Fresh news (big.filter fun p => decide (p.1 ≠ I)) p) ∧
    (∀ p, Fresh (nx ++ own) big p → Fresh news (big.filter fun p => decide (p.1 ≠ I)) p) ∧ ∀ p ∈ own, p ∈ big := by
  have hi : ∀ p ∈ own, p.1 = I ∨ p ∈ news := fun p hp => by
    rcases hi' p hp with e | e
    · exact .inl e
    · refine .inr ?_
      have h1 := (N _ (List.mem_append_left own (g0.sub _ hl))).1
      have h2 := (N _ (List.mem_append_right nx hp)).1
      rw [e, h1] at h2
      have h3 := Option.some.inj h2
      obtain ⟨pa, po⟩ := p
      simp only at e h3
      rw [e, ← h3]
      exact hl
  have keep : ∀ p ∈ nx, p ∈ big.filter fun p => decide (p.1 ≠ I) := fun p hp => List.mem_filter.mpr ⟨g.sub p (List.mem_append_left _ hp), decide_eq_true (hI p hp)⟩
  refine ⟨⟨fun p hp => keep p (g0.sub p hp), fun p hp => ?_⟩, fun p hp => ⟨keep p hp.1, hp.2⟩, fun p hp => ⟨List.mem_filter.mpr ⟨hp.1, decide_eq_true fun hm => ?_⟩, fun q hq => hp.2 q (List.mem_append_left _ (g0.sub q hq))⟩, fun p hp => g.sub p (List.mem_append_right _ hp)⟩
  · obtain ⟨h1, h2⟩ := List.mem_filter.mp hp
    rcases g.off p h1 with h | h
    · rcases List.mem_append.mp h with h | h
      · exact g0.off p h
      · rcases hi p h with e | e
        · exact absurd e (of_decide_eq_true h2)
        · exact .inl e
    · exact .inr fun q hq => h q (List.mem_append_left _ (g0.sub q hq))
  · obtain ⟨q, hq, e⟩ := hex
    exact hp.2 q (List.mem_append_right _ hq) (e.trans hm.symm)

/-- a list of texts -/
def TextsR (S : Addr × Obj → Prop) (ts : List (List Nat)) (r : Value) : Prop := ∃ l vs, r = .ref l ∧ S (l, lstO vs) ∧ StrsAre vs (ts.map SS)
/-- what _law_told hands back -/
def ToCon (w : World) (base : Heap) (d : Nat) : Prop :=
  ∀ (news : Led) (v : Value) (x : It), ItR (· ∈ news) x v → Ok d x → Con w 109 [v] (d + 2) (16 * (d + 2)) base news (fun S r => TextsR S (told x) r)

/-- between the turns of _law_told's loop -/
def ToldJ (xs : List It) (news : Led) (m₀ : Str → Option Value) (i : Nat) (m : Str → Option Value) (nx : Led) : Prop :=
  Grown news nx ∧ (∀ z, z ≠ Str.ofString "found" → ([Str.ofString "one"] : List Str).contains z = false → m z = m₀ z) ∧
  ∃ l vs, m (Str.ofString "found") = some (.ref l) ∧ Fresh news nx (l, lstO vs) ∧ StrsAre vs ((tolds (xs.take i)).map SS)
theorem ToldJ.start {xs : List It} {news : Led} {m₀ : Str → Option Value} {l : Addr} {nx : Led} (g : Grown news nx) (h1 : m₀ (Str.ofString "found") = some (.ref l)) (h3 : Fresh news nx (l, lstO [])) : ToldJ xs news m₀ 0 m₀ nx :=
  ⟨g, fun _ _ _ => rfl, l, [], h1, h3, by simp [tolds]; exact .nil⟩
theorem strs_append {vs us : List Value} {a b : List Str} (h : StrsAre vs a) (k : StrsAre us b) : StrsAre (vs ++ us) (a ++ b) := by
  induction h with
  | nil => exact k
  | cons y t _ ih => exact .cons y t ih
theorem strs_len {vs : List Value} {a : List Str} (h : StrsAre vs a) : vs.length = a.length := by
  induction h with
  | nil => rfl
  | cons y t _ ih => simp [ih]
theorem tolds_take {xs : List It} {i : Nat} {x : It} (h : xs[i]? = some x) : tolds (xs.take (i + 1)) = tolds (xs.take i) ++ told x := by
  rw [List.take_add_one, h, tolds_eq, tolds_eq]
  simp
theorem map_form1 {m m₀ : Str → Option Value} (x1 : Str) {v1 : Value} (ws : List Str) (h1 : m x1 = some v1) (h : ∀ z, z ≠ x1 → ws.contains z = false → m z = m₀ z) :
    m = fun z => if z = x1 then some v1 else if ws.contains z then m z else m₀ z := by
  funext z
  by_cases e1 : z = x1
  · rw [if_pos e1, e1, h1]
  · rw [if_neg e1]
    cases e3 : ws.contains z with
    | true => rfl
    | false => exact h z e1 e3

theorem vEnd_of {h₀ : Heap} {L : Addr} {J : (Str → Option Value) → List (Addr × Obj) → Prop} {own big : Led} {I : Addr} {s₁ : Shared} {Q : Flow → Shared → Prop} {h' : Heap} {tk : Nat} {m' : Str → Option Value}
    (F : Fr h₀ L h' m') (N : News h₀ L h' big) (sub : ∀ p ∈ own, p ∈ big) (hJ : J m' (big.filter fun p => decide (p.1 ≠ I))) : VPost h₀ L J own I s₁ Q .next { s₁ with heap := h', toks := tk } :=
  ⟨h', tk, m', big, _, rfl, F, N, fun p hp => (List.mem_filter.mp hp).1, sub, fun q hq => of_decide_eq_true (List.mem_filter.mp hq).2, hJ⟩
theorem ToldJ.next {xs : List It} {news nx own big : Led} {I l0 : Addr} {o : Obj} {h₀ h : Heap} {L : Addr} {m₀ m' : Str → Option Value} {i : Nat} {l' : Addr} {us vs9 : List Value} {x9 : It}
    (g0 : Grown news nx) (hI : ∀ q ∈ nx, q.1 ≠ I) (hl : (l0, o) ∈ news) (N : News h₀ L h (nx ++ own)) (hi : ∀ p ∈ own, p.1 = I ∨ p.1 = l0) (hex : ∃ p ∈ own, p.1 = I) (hst : StrsAre us ((tolds (xs.take i)).map SS)) (st9 : StrsAre vs9 ((told x9).map SS)) (hx8 : xs[i]? = some x9)
    (g : Grown (nx ++ own) big) (hm : ∀ z, z ≠ Str.ofString "found" → z ≠ Str.ofString "one" → m' z = m₀ z) (e1 : m' (Str.ofString "found") = some (.ref l')) (hl' : Fresh (nx ++ own) big (l', lstO (us ++ vs9))) :
    ToldJ xs news m₀ (i + 1) m' (big.filter fun p => decide (p.1 ≠ I)) := by
  obtain ⟨f1, f2, f3, _⟩ := v_fresh g0 hI g hl N hi hex
  refine ⟨f1, fun z z1 z2 => ?_, l', us ++ vs9, e1, f3 _ hl', ?_⟩
  · have z3 : ¬z = Str.ofString "one" := by simpa using z2
    exact hm z z1 z3
  · rw [tolds_take hx8, List.map_append]
    exact strs_append hst st9

end Mine
end

section
open PySem PySem.W PySem.Spec PySem.Calls PyProof.Rows
set_option Elab.async false
set_option maxRecDepth 100000
set_option maxHeartbeats 8000000
set_option linter.unusedVariables false
namespace Mine
local macro_rules | `(tactic| walk_at "pad C9 0") => `(tactic| fail)
local macro_rules | `(tactic| walk_at "pad C9 1") => `(tactic| fail)
local macro_rules | `(tactic| walk_at "pad C9 2") => `(tactic| fail)
local macro_rules | `(tactic| walk_at "pad C9 3") => `(tactic| fail)
local macro_rules | `(tactic| walk_at "pad C9 4") => `(tactic| fail)
local macro_rules | `(tactic| walk_at "pad C9 5") => `(tactic| fail)
local macro_rules | `(tactic| walk_at "pad C9 6") => `(tactic| fail)
local macro_rules | `(tactic| walk_at "pad C9 7") => `(tactic| fail)
local macro_rules | `(tactic| walk_at "pad C9 8") => `(tactic| fail)
theorem kept_part9 (h : hd.heap_39 = hd.heap_39 → PySem.Challenge.rw_fc0017_01 = PySem.Challenge.rw_fc0017_01) : True := by
  revert h
  k_fill
  w_top off
  k_with_none
  intro _; trivial
local macro_rules | `(tactic| walk_at "my enter") => `(tactic| (refine' code_def ?k1 ?k2 ?k3 ?k4 ?k5 ?kA ?kF ?kK ?k6 ?k7 ?k8 ?k9 ?kB ?_ ?c2 ?c3 ?c4 ?c5; (case kA => exact rfl); (case kF => exact rfl); (case kK => assumption); (case k1 => k_asm); (case k2 => k_asm); (case k3 => k_asm); (case k4 => k_asm); (case k5 => k_asm); (case k6 => k_is); (case k7 => k_is); (case k8 => ktr_room); (case k9 => exact BindsTo.of_eq rfl); (case c5 => decide); (case kB => exact locs rfl); (case c2 => exact rfl); (case c3 => exact rfl); (case c4 => exact rfl); k_whole; intro g' L' h' FG' F' N' B' X' T'; (try dsimp only); (try k_lift B'); (try k_fold)))
local macro_rules | `(tactic| walk_at "my use") => `(tactic| ( (case k1 => k_asm); (case k2 => k_asm); (case k3 => k_asm); (case k4 => k_asm); (case k5 => k_asm); (case kK => first | exact rfl | assumption); (case kd => ktr_room); (case ku => ktr_units)))
local macro_rules | `(tactic| walk_at "call ref") => `(tactic| (k_here; k_extra "call ref"))
local macro_rules | `(tactic| walk_at "pyIter ref") => `(tactic| (k_here; k_extra "pyIter ref"))
local macro_rules | `(tactic| walk_at "exec For Name Call cons nil") => `(tactic| (k_here; k_extra "exec For Name Call cons nil"))
local macro_rules | `(tactic| walk_at "exec For Name Name cons nil") => `(tactic| (k_here; (rename Fr _ _ _ _ => lF9); (with_unfolding_all refine' For_invVF lF9 ?k1 ?k2 ?_; (case k1 => exact rfl); (case k2 => exact rfl); k_whole)))
local macro_rules | `(tactic| walk_at "my lt") => `(tactic| first | exact ne_of_allLt (by assumption) | exact ne_of_allLt (allLt_of (by assumption)) | exact ne_of_off1 (by assumption))
local macro_rules | `(tactic| walk_at "my grown") => `(tactic| first | assumption | exact Grown.refl _ | exact Grown.trans (by assumption) (by assumption) | (refine Grown.cons ?_ ?_; (walk_at "my grown"); (walk_at "my lt")) | (refine Grown.dup ?_ ?_; (walk_at "my grown"); (walk_at "my mem")))
local macro_rules | `(tactic| walk_at "my fresh") => `(tactic| first | exact fresh_head (by walk_at "my grown") (by walk_at "my lt") | (refine Fresh.tail ?_; walk_at "my fresh"))
local macro_rules | `(tactic| walk_at "my mem") => `(tactic| first | exact .head _ | assumption | (refine .tail _ ?_; walk_at "my mem") | (refine Grown.sub (by assumption) _ ?_; walk_at "my mem"))
local macro_rules | `(tactic| walk_at "my fit") => `(tactic| k_extra "my fit")
local macro_rules | `(tactic| walk_at "binaryOp Add") => `(tactic| (k_here; (with_reducible show wpAny _ _ (binaryOp Operator.Add (Value.ref _) (Value.ref _)) _ _ _); refine' add_two ?k1 ?k2 ?k3 ?k4 ?k5 ?_; (case k1 => k_asm); (case k2 => k_asm); (case k3 => walk_at "my mem"); (case k4 => walk_at "my mem"); (case k5 => walk_at "my fit"); k_whole; intro a9' h9' F9' N9' l9'))
local macro_rules | `(tactic| walk_at "eval ListComp") => `(tactic| (k_here; k_dflt (refine LCg.ListComp_U (F₀ := by k_asm) (by rfl) (by decide) (by rfl) (by decide) (by rfl) ?_)))
local macro_rules | `(tactic| walk_at "CompSrc") => `(tactic| (k_extra "CompSrc"))
local macro_rules | `(tactic| walk_at "call builtin:str.join") => `(tactic| (k_here; k_extra "call builtin:str.join"))
local macro_rules | `(tactic| walk_at "binaryOp Mult ref int") => `(tactic| (k_here; k_extra "binaryOp Mult ref int"))

theorem mul_two {prog : Program} {w : World} {A : Around} {E : Value → Shared → Prop} {s : Shared} {h₀ : Heap} {L : Addr} {m : Str → Option Value} {news : Led} {l : Addr} {vs : List Value} {c : Nat} {u : Tok} {Q : Value → Shared → Prop}
    (F : Fr h₀ L s.heap m) (N : News h₀ L s.heap news) (h1 : (l, lstO vs) ∈ news) (hc : c ≤ 100) (hsz : vs.length ≤ 20000)
    (h : ∀ a h', Fr h₀ L h' m → News h₀ L h' ((a, lstO (List.replicate c vs).flatten) :: news) → AllLt a news → Q (.ref a) { s with heap := h' }) : wpAny (model prog w) A (binaryOp .Mult (.ref l) (.int c u)) Q E s := by
  have hm : vs.length * c ≤ 20000 * 100 := Nat.mul_le_mul hsz hc
  refine mul_list F N (N _ h1).1 (by omega) (by omega) (by rw [Int.toNat_natCast, List.size_toArray]; omega) ?_
  intro h' F' N'
  rw [Int.toNat_natCast, listMul_foldl_if] at N'
  exact h _ h' F' N' (allLt_of fun p hp => Heap.lt_size (N p hp).1)


theorem map_flat {c : Nat} {l : List (List Nat)} : ((List.replicate c l).flatten).map SS = (List.replicate c (l.map SS)).flatten := by
  rw [List.map_flatten, List.map_replicate]
theorem strs_flat {vs : List Value} {l : List Str} (h : StrsAre vs l) : ∀ c : Nat, StrsAre (List.replicate c vs).flatten (List.replicate c l).flatten
  | 0 => .nil
  | c + 1 => by
    rw [List.replicate_succ, List.replicate_succ, List.flatten_cons, List.flatten_cons]
    exact strs_append h (strs_flat h c)

theorem told_br0 {w : World} {base : Heap} {d : Nat} (IH : ToCon w base d) {news : Led} {v : Value} {xs : List It} (hR : ItR (· ∈ news) (.br none xs) v) (hO : Ok (d + 1) (.br none xs)) (htl : (tolds xs).length ≤ 10000) (htx : ∀ x ∈ xs, (told x).length ≤ 10000) :
    Con w 109 [v] (d + 3) (16 * (d + 3)) base news (fun S r => TextsR S (told (.br none xs)) r) := by
  simp only [ItR] at hR
  obtain ⟨a0, cv, l0, vs, rfl, hm, hc, hl, hRs⟩ := hR
  simp only [CntV] at hc
  subst hc
  simp only [Ok] at hO
  obtain ⟨hO1, hO2, hO3, hO4, hO5⟩ := hO
  
  have hlen := ItsR.len xs vs hRs
  intro mean mg mb dp un gd cn cs a ccd cl outer A₀ h₀ L m s Q E B F X N T hk hd hu hret
  have g0 : Grown news ((a0, tupO [.none, .ref l0]) :: (l0, lstO vs) :: news) := Grown.dup (Grown.dup (Grown.refl _) hl) (.tail _ hm)
  have N := News.dup (News.dup N hl) (.tail _ hm)
  refine wpAny_call ?_
  k_dflt (walk_at "my enter")
  k_with_none
  k_with "call ref" => (
    (with_reducible show wpAny _ _ (call (Value.ref 109) _) _ _ _)
    refine' con_use (IH _ _ x9 ?kR hO9) ?k1 ?k2 ?k3 ?k4 ?k5 ?kK ?kd ?ku ?_
    walk_at "my use"
    case kR => exact ItR.mono (fun p hp => by walk_at "my mem") _ _ hx9
    intro r9 news9 h9 tk9 F9 N9 g9 p9
    obtain ⟨l9, vs9, e9, m9, st9⟩ := p9
    subst e9
    have N9 := News.dup N9 m9.1
    have g9 := Grown.dup g9 m9.1
    (try dsimp only)
    (try k_fold))
  k_with "my fit" => (have q1 := strs_len hst; have q2 := strs_len st9; rw [List.length_map] at q1 q2; unfold sizeLine; omega)
  k_with "pyIter ref" => (
    (rename Fr _ _ _ _ => lF); (rename News _ _ _ _ => lN)
    with_unfolding_all refine' val_loop (vs := vs) (ToldJ xs news) (by rfl) ?hm lF lN ?hj ?turn ?done
    case hm => walk_at "my mem"
    case hj =>
      refine' ToldJ.start ?h0 ?h1 ?h3
      case h0 => walk_at "my grown"
      case h1 => with_unfolding_all exact rfl
      case h3 => walk_at "my fresh"
    case' turn =>
      intro i v m₁ nx h2 tk2 own I hv hI hi hex hJ lF lN
      obtain ⟨g0, hm1, l2, us, e1, hl2, hst⟩ := hJ
      obtain ⟨x9, hx8, hx9⟩ := ItsR.at xs vs hRs i v hv
      have hO9 := (Oks_iff xs).mp hO5 x9 (List.mem_of_getElem? hx8)
      have htx9 := htx x9 (List.mem_of_getElem? hx8)
      have htk : (tolds (xs.take i)).length ≤ 10000 := by
        have : (tolds xs) = tolds (xs.take i) ++ tolds (xs.drop i) := by rw [tolds_eq, tolds_eq, tolds_eq, ← List.flatMap_append, List.take_append_drop]
        rw [this, List.length_append] at htl
        omega
      have lN0 := lN
      rw [map_form1 _ _ e1 hm1] at lF
      have lN := News.dup lN (List.mem_append_left own hl2.1)
      have gD : Grown (nx ++ own) ((l2, lstO us) :: (nx ++ own)) := Grown.dup (Grown.refl _) (List.mem_append_left own hl2.1)
      have gN : Grown news (nx ++ own) → True := fun _ => trivial
      have hx9 := ItR.mono (S' := (· ∈ nx ++ own)) (fun p hp => List.mem_append_left own (g0.sub p hp)) _ _ hx9
      (try dsimp only)
      (try k_fold)
    case' done =>
      intro m₁ nx h2 tk2 hJ lF lN
      obtain ⟨g0, hm1, l2, us, e1, hl2, hst⟩ := hJ
      rw [map_form1 _ _ e1 hm1] at lF
      have lN := News.dup lN hl2.1
      have g0 := Grown.dup g0 hl2.1
      (try dsimp only)
      (try k_fold))
  k_steps
  all_goals (try k_data)
  · refine' hret _ _ _ _ ?ea ?eb ?ec ?ed
    case ea => k_asm
    case eb => k_asm
    case ec => walk_at "my grown"
    case ed =>
      have e7 : xs.take vs.length = xs := by rw [hlen, List.take_length]
      rw [e7] at hst
      exact ⟨l2, us, rfl, Fresh.mono hl2 (fun q hq => .tail _ hq), by rw [told]; exact hst⟩
  · refine' vEnd_of ?ea ?eb ?ec ?ed
    case ea => k_asm
    case eb => k_asm
    case ec => exact fun p hp => Grown.sub (by walk_at "my grown") p (List.mem_append_right nx hp)
    case ed =>
      refine' ToldJ.next g0 hI hl lN0 hi hex hst st9 hx8 ?g ?m1 ?m2 ?m3
      case g => walk_at "my grown"
      case m1 =>
        intro z z1 z3
        have z2 : ([Str.ofString "one"] : List Str).contains z = false := by simpa using z3
        simp only [if_neg z1, if_neg z3, z2, Bool.false_eq_true, if_false]
      case m2 => with_unfolding_all exact rfl
      case m3 => walk_at "my fresh"

theorem told_br1 {w : World} {base : Heap} {d : Nat} (IH : ToCon w base d) {news : Led} {v : Value} {xs : List It} {c : Nat} (hR : ItR (· ∈ news) (.br (some c) xs) v) (hO : Ok (d + 1) (.br (some c) xs)) (htl : (tolds xs).length ≤ 10000) (htx : ∀ x ∈ xs, (told x).length ≤ 10000) :
    Con w 109 [v] (d + 3) (16 * (d + 3)) base news (fun S r => TextsR S (told (.br (some c) xs)) r) := by
  simp only [ItR] at hR
  obtain ⟨a0, cv, l0, vs, rfl, hm, hc, hl, hRs⟩ := hR
  simp only [CntV] at hc
  obtain ⟨tc, hc⟩ := hc
  subst hc
  simp only [Ok] at hO
  obtain ⟨hO1, hO2, hO3, hO4, hO5⟩ := hO
  have hc3 : c ≤ 2 := hO1 c rfl
  have hlen := ItsR.len xs vs hRs
  intro mean mg mb dp un gd cn cs a ccd cl outer A₀ h₀ L m s Q E B F X N T hk hd hu hret
  have g0 : Grown news ((a0, tupO [.int c tc, .ref l0]) :: (l0, lstO vs) :: news) := Grown.dup (Grown.dup (Grown.refl _) hl) (.tail _ hm)
  have N := News.dup (News.dup N hl) (.tail _ hm)
  refine wpAny_call ?_
  k_dflt (walk_at "my enter")
  k_with_none
  k_with "call ref" => (
    (with_reducible show wpAny _ _ (call (Value.ref 109) _) _ _ _)
    refine' con_use (IH _ _ x9 ?kR hO9) ?k1 ?k2 ?k3 ?k4 ?k5 ?kK ?kd ?ku ?_
    walk_at "my use"
    case kR => exact ItR.mono (fun p hp => by walk_at "my mem") _ _ hx9
    intro r9 news9 h9 tk9 F9 N9 g9 p9
    obtain ⟨l9, vs9, e9, m9, st9⟩ := p9
    subst e9
    have N9 := News.dup N9 m9.1
    have g9 := Grown.dup g9 m9.1
    (try dsimp only)
    (try k_fold))
  k_with "binaryOp Mult ref int" => (
    refine mul_two (by k_asm) (by k_asm) (.head _) (by omega) (by have q1 := strs_len hst; have e7 : xs.take vs.length = xs := by rw [hlen, List.take_length]
                                                                  rw [List.length_map, e7] at q1; omega) ?_
    intro a6 h6 F6 N6 l6
    (try dsimp only)
    (try k_fold))
  k_with "my fit" => (have q1 := strs_len hst; have q2 := strs_len st9; rw [List.length_map] at q1 q2; unfold sizeLine; omega)
  k_with "pyIter ref" => (
    (rename Fr _ _ _ _ => lF); (rename News _ _ _ _ => lN)
    with_unfolding_all refine' val_loop (vs := vs) (ToldJ xs news) (by rfl) ?hm lF lN ?hj ?turn ?done
    case hm => walk_at "my mem"
    case hj =>
      refine' ToldJ.start ?h0 ?h1 ?h3
      case h0 => walk_at "my grown"
      case h1 => with_unfolding_all exact rfl
      case h3 => walk_at "my fresh"
    case' turn =>
      intro i v m₁ nx h2 tk2 own I hv hI hi hex hJ lF lN
      obtain ⟨g0, hm1, l2, us, e1, hl2, hst⟩ := hJ
      obtain ⟨x9, hx8, hx9⟩ := ItsR.at xs vs hRs i v hv
      have hO9 := (Oks_iff xs).mp hO5 x9 (List.mem_of_getElem? hx8)
      have htx9 := htx x9 (List.mem_of_getElem? hx8)
      have htk : (tolds (xs.take i)).length ≤ 10000 := by
        have : (tolds xs) = tolds (xs.take i) ++ tolds (xs.drop i) := by rw [tolds_eq, tolds_eq, tolds_eq, ← List.flatMap_append, List.take_append_drop]
        rw [this, List.length_append] at htl
        omega
      have lN0 := lN
      rw [map_form1 _ _ e1 hm1] at lF
      have lN := News.dup lN (List.mem_append_left own hl2.1)
      have gD : Grown (nx ++ own) ((l2, lstO us) :: (nx ++ own)) := Grown.dup (Grown.refl _) (List.mem_append_left own hl2.1)
      have gN : Grown news (nx ++ own) → True := fun _ => trivial
      have hx9 := ItR.mono (S' := (· ∈ nx ++ own)) (fun p hp => List.mem_append_left own (g0.sub p hp)) _ _ hx9
      (try dsimp only)
      (try k_fold)
    case' done =>
      intro m₁ nx h2 tk2 hJ lF lN
      obtain ⟨g0, hm1, l2, us, e1, hl2, hst⟩ := hJ
      rw [map_form1 _ _ e1 hm1] at lF
      have lN := News.dup lN hl2.1
      have g0 := Grown.dup g0 hl2.1
      (try dsimp only)
      (try k_fold))
  k_steps
  all_goals (try k_data)
  · refine' hret _ _ _ _ ?ea ?eb ?ec ?ed
    case ea => k_asm
    case eb => k_asm
    case ec => walk_at "my grown"
    case ed =>
      have e7 : xs.take vs.length = xs := by rw [hlen, List.take_length]
      rw [e7] at hst
      exact ⟨_, _, rfl, by walk_at "my fresh", by rw [told, map_flat]; exact strs_flat hst c⟩
  · refine' vEnd_of ?ea ?eb ?ec ?ed
    case ea => k_asm
    case eb => k_asm
    case ec => exact fun p hp => Grown.sub (by walk_at "my grown") p (List.mem_append_right nx hp)
    case ed =>
      refine' ToldJ.next g0 hI hl lN0 hi hex hst st9 hx8 ?g ?m1 ?m2 ?m3
      case g => walk_at "my grown"
      case m1 =>
        intro z z1 z3
        have z2 : ([Str.ofString "one"] : List Str).contains z = false := by simpa using z3
        simp only [if_neg z1, if_neg z3, z2, Bool.false_eq_true, if_false]
      case m2 => with_unfolding_all exact rfl
      case m3 => walk_at "my fresh"

theorem told_tok0 {w : World} {base : Heap} {d : Nat} {news : Led} {v : Value} {x : List Nat} (hR : ItR (· ∈ news) (.tok none x) v) (hO : Ok d (.tok none x)) :
    Con w 109 [v] 2 32 base news (fun S r => TextsR S (told (.tok none x)) r) := by
  simp only [ItR] at hR
  obtain ⟨a0, cv, t0, rfl, hm, hc⟩ := hR
  simp only [CntV] at hc
  subst hc
  simp only [Ok] at hO
  obtain ⟨hO1, hO2⟩ := hO
  
  intro mean mg mb dp un gd cn cs a ccd cl outer A₀ h₀ L m s Q E B F X N T hk hd hu hret
  have g0 : Grown news ((a0, tupO [.none, .str (SS x) t0]) :: news) := Grown.dup (Grown.refl _) hm
  have N := News.dup N hm
  refine wpAny_call ?_
  k_dflt (walk_at "my enter")
  k_with_none
  k_with "binaryOp Mult ref int" => (
    refine mul_two (by k_asm) (by k_asm) (.head _) (by omega) (by show (1 : Nat) ≤ 20000; omega) ?_
    intro a6 h6 F6 N6 l6
    (try dsimp only)
    (try k_fold))
  k_steps
  all_goals (try k_data)
  all_goals (
    refine' hret _ _ _ _ ?ea ?eb ?ec ?ed
    case ea => k_asm
    case eb => k_asm
    case ec => walk_at "my grown"
    case ed => exact ⟨_, [.str (SS x) t0], rfl, by walk_at "my fresh", by rw [told]; exact .cons _ _ .nil⟩)

theorem told_tok1 {w : World} {base : Heap} {d : Nat} {news : Led} {v : Value} {x : List Nat} {c : Nat} (hR : ItR (· ∈ news) (.tok (some c) x) v) (hO : Ok d (.tok (some c) x)) :
    Con w 109 [v] 2 32 base news (fun S r => TextsR S (told (.tok (some c) x)) r) := by
  simp only [ItR] at hR
  obtain ⟨a0, cv, t0, rfl, hm, hc⟩ := hR
  simp only [CntV] at hc
  obtain ⟨tc, hc⟩ := hc
  subst hc
  simp only [Ok] at hO
  obtain ⟨hO1, hO2⟩ := hO
  have hc3 : c ≤ 3 := hO1 c rfl
  intro mean mg mb dp un gd cn cs a ccd cl outer A₀ h₀ L m s Q E B F X N T hk hd hu hret
  have g0 : Grown news ((a0, tupO [.int c tc, .str (SS x) t0]) :: news) := Grown.dup (Grown.refl _) hm
  have N := News.dup N hm
  refine wpAny_call ?_
  k_dflt (walk_at "my enter")
  k_with_none
  k_with "binaryOp Mult ref int" => (
    refine mul_two (by k_asm) (by k_asm) (.head _) (by omega) (by show (1 : Nat) ≤ 20000; omega) ?_
    intro a6 h6 F6 N6 l6
    (try dsimp only)
    (try k_fold))
  k_steps
  all_goals (try k_data)
  all_goals (
    refine' hret _ _ _ _ ?ea ?eb ?ec ?ed
    case ea => k_asm
    case eb => k_asm
    case ec => walk_at "my grown"
    case ed => exact ⟨_, _, rfl, by walk_at "my fresh", by rw [told, List.map_replicate]; exact strs_rep c⟩)

end Mine
end

section
open PySem PySem.W PySem.Spec PySem.Calls PyProof.Rows
set_option Elab.async false
set_option maxRecDepth 100000
set_option maxHeartbeats 8000000
set_option linter.unusedVariables false
namespace Mine
local macro_rules | `(tactic| walk_at "pad C10 0") => `(tactic| fail)
local macro_rules | `(tactic| walk_at "pad C10 1") => `(tactic| fail)
local macro_rules | `(tactic| walk_at "pad C10 2") => `(tactic| fail)
local macro_rules | `(tactic| walk_at "pad C10 3") => `(tactic| fail)
local macro_rules | `(tactic| walk_at "pad C10 4") => `(tactic| fail)
local macro_rules | `(tactic| walk_at "pad C10 5") => `(tactic| fail)
local macro_rules | `(tactic| walk_at "pad C10 6") => `(tactic| fail)
local macro_rules | `(tactic| walk_at "pad C10 7") => `(tactic| fail)
local macro_rules | `(tactic| walk_at "pad C10 8") => `(tactic| fail)
local macro_rules | `(tactic| walk_at "pad C10 9") => `(tactic| fail)
theorem kept_part10 (h : hd.heap_39 = hd.heap_39 → PySem.Challenge.rw_fc0017_01 = PySem.Challenge.rw_fc0017_01) : True := by
  revert h
  k_fill
  w_top off
  k_with_none
  intro _; trivial
local macro_rules | `(tactic| walk_at "my enter") => `(tactic| (refine' code_def ?k1 ?k2 ?k3 ?k4 ?k5 ?kA ?kF ?kK ?k6 ?k7 ?k8 ?k9 ?kB ?_ ?c2 ?c3 ?c4 ?c5; (case kA => exact rfl); (case kF => exact rfl); (case kK => assumption); (case k1 => k_asm); (case k2 => k_asm); (case k3 => k_asm); (case k4 => k_asm); (case k5 => k_asm); (case k6 => k_is); (case k7 => k_is); (case k8 => ktr_room); (case k9 => exact BindsTo.of_eq rfl); (case c5 => decide); (case kB => exact locs rfl); (case c2 => exact rfl); (case c3 => exact rfl); (case c4 => exact rfl); k_whole; intro g' L' h' FG' F' N' B' X' T'; (try dsimp only); (try k_lift B'); (try k_fold)))
local macro_rules | `(tactic| walk_at "my use") => `(tactic| ( (case k1 => k_asm); (case k2 => k_asm); (case k3 => k_asm); (case k4 => k_asm); (case k5 => k_asm); (case kK => first | exact rfl | assumption); (case kd => ktr_room); (case ku => ktr_units)))
local macro_rules | `(tactic| walk_at "call ref") => `(tactic| (k_here; k_extra "call ref"))
local macro_rules | `(tactic| walk_at "pyIter ref") => `(tactic| (k_here; k_extra "pyIter ref"))
local macro_rules | `(tactic| walk_at "exec For Name Call cons nil") => `(tactic| (k_here; k_extra "exec For Name Call cons nil"))
local macro_rules | `(tactic| walk_at "exec For Name Name cons nil") => `(tactic| (k_here; (rename Fr _ _ _ _ => lF9); (with_unfolding_all refine' For_invVF lF9 ?k1 ?k2 ?_; (case k1 => exact rfl); (case k2 => exact rfl); k_whole)))
local macro_rules | `(tactic| walk_at "my lt") => `(tactic| first | exact ne_of_allLt (by assumption) | exact ne_of_allLt (allLt_of (by assumption)) | exact ne_of_off1 (by assumption))
local macro_rules | `(tactic| walk_at "my grown") => `(tactic| first | assumption | exact Grown.refl _ | exact Grown.trans (by assumption) (by assumption) | (refine Grown.cons ?_ ?_; (walk_at "my grown"); (walk_at "my lt")) | (refine Grown.dup ?_ ?_; (walk_at "my grown"); (walk_at "my mem")))
local macro_rules | `(tactic| walk_at "my fresh") => `(tactic| first | exact fresh_head (by walk_at "my grown") (by walk_at "my lt") | (refine Fresh.tail ?_; walk_at "my fresh"))
local macro_rules | `(tactic| walk_at "my mem") => `(tactic| first | exact .head _ | assumption | (refine .tail _ ?_; walk_at "my mem") | (refine Grown.sub (by assumption) _ ?_; walk_at "my mem"))
local macro_rules | `(tactic| walk_at "my fit") => `(tactic| k_extra "my fit")
local macro_rules | `(tactic| walk_at "binaryOp Add") => `(tactic| (k_here; (with_reducible show wpAny _ _ (binaryOp Operator.Add (Value.ref _) (Value.ref _)) _ _ _); refine' add_two ?k1 ?k2 ?k3 ?k4 ?k5 ?_; (case k1 => k_asm); (case k2 => k_asm); (case k3 => walk_at "my mem"); (case k4 => walk_at "my mem"); (case k5 => walk_at "my fit"); k_whole; intro a9' h9' F9' N9' l9'))
local macro_rules | `(tactic| walk_at "eval ListComp") => `(tactic| (k_here; k_dflt (refine LCg.ListComp_U (F₀ := by k_asm) (by rfl) (by decide) (by rfl) (by decide) (by rfl) ?_)))
local macro_rules | `(tactic| walk_at "CompSrc") => `(tactic| (k_extra "CompSrc"))
local macro_rules | `(tactic| walk_at "call builtin:str.join") => `(tactic| (k_here; k_extra "call builtin:str.join"))
local macro_rules | `(tactic| walk_at "binaryOp Mult ref int") => `(tactic| (k_here; k_extra "binaryOp Mult ref int"))
mutual
theorem told_le : ∀ (x : It) (d : Nat), Ok d x → (told x).length ≤ cost x
  | .tok none w, d, h => by
    simp only [Ok] at h
    have := (word_len h.2).2
    simp only [told, cost, headC, List.nil_append, List.length_cons, List.length_nil]; omega
  | .tok (some c) w, d, h => by
    simp only [Ok] at h
    have h1 := (word_len h.2).2
    have h2 := h.1 c rfl
    simp only [told, cost, headC, List.length_replicate, List.length_append, List.length_cons, List.length_nil]; omega
  | .br none xs, d, h => by
    simp only [Ok] at h
    have := tolds_le xs (d - 1) h.2.2.2.2
    simp only [told, cost]; omega
  | .br (some c) xs, d, h => by
    simp only [Ok] at h
    have h1 := tolds_le xs (d - 1) h.2.2.2.2
    simp only [told, cost, List.length_flatten, List.map_replicate, List.sum_replicate_nat]
    have h2 : c * (tolds xs).length ≤ (c + 1) * (costs xs + 1) := Nat.mul_le_mul (by omega) (by omega)
    omega
theorem tolds_le : ∀ (xs : List It) (d : Nat), Oks d xs → (tolds xs).length ≤ costs xs
  | [], d, h => by simp [tolds]
  | x :: r, d, h => by
    simp only [Oks] at h
    have h1 := told_le x d h.1
    have h2 := tolds_le r d h.2
    simp only [tolds, costs, List.length_append]; omega
end
theorem small_to {d : Nat} {c : Option Nat} {xs : List It} (hd : d + 1 ≤ 2) (h : Ok (d + 1) (.br c xs)) : (tolds xs).length ≤ 10000 ∧ ∀ x ∈ xs, (told x).length ≤ 10000 := by
  have h1 := cost_le _ _ h
  have h3 : cb (d + 1) ≤ 808 := by
    match d, hd with
    | 0, _ => decide
    | 1, _ => decide
  have h4 : costs xs ≤ cost (.br c xs) := by
    cases c with
    | none => rw [cost]; omega
    | some c =>
      rw [cost]
      have : costs xs + 1 ≤ (c + 1) * (costs xs + 1) := Nat.le_mul_of_pos_left _ (Nat.succ_pos c)
      omega
  have ho : Oks d xs := by
    cases c <;> (simp only [Ok] at h; exact h.2.2.2.2)
  have h5 := tolds_le xs d ho
  refine ⟨by omega, fun x hx => ?_⟩
  have h6 := told_le x d ((Oks_iff xs).mp ho x hx)
  have h7 : cost x ≤ costs xs := by
    clear h1 h3 h4 ho h5 h6 h
    induction xs with
    | nil => cases hx
    | cons y r ih =>
      rw [costs]
      rcases List.mem_cons.mp hx with e | hx
      · subst e; omega
      · have := ih hx; omega
  omega
theorem told_ok {w : World} {base : Heap} : ∀ d, d ≤ 2 → ToCon w base d
  | d, hd, news, v, .tok none x, hR, hO => (told_tok0 hR hO).weaken (by omega) (by omega)
  | d, hd, news, v, .tok (some c) x, hR, hO => (told_tok1 hR hO).weaken (by omega) (by omega)
  | 0, hd, news, v, .br c xs, hR, hO => by simp only [Ok] at hO; omega
  | d + 1, hd, news, v, .br none xs, hR, hO => (told_br0 (told_ok d (by omega)) hR hO (small_to hd hO).1 (small_to hd hO).2).weaken (by omega) (by omega)
  | d + 1, hd, news, v, .br (some c) xs, hR, hO => (told_br1 (told_ok d (by omega)) hR hO (small_to hd hO).1 (small_to hd hO).2).weaken (by omega) (by omega)
theorem item_ok {w : World} {base : Heap} {l : Addr} (hs : Script base l) : ItemCon w base l 2 := item_succ hs (by omega) (item_succ hs (by omega) (item0 hs))

end Mine
end

section
open PySem PySem.W PySem.Spec PySem.Calls PyProof.Rows
set_option Elab.async false
set_option maxRecDepth 100000
set_option maxHeartbeats 8000000
set_option linter.unusedVariables false
namespace Mine
local macro_rules | `(tactic| walk_at "pad D1 0") => `(tactic| fail)
local macro_rules | `(tactic| walk_at "pad D1 1") => `(tactic| fail)
local macro_rules | `(tactic| walk_at "pad D1 2") => `(tactic| fail)
local macro_rules | `(tactic| walk_at "pad D1 3") => `(tactic| fail)
local macro_rules | `(tactic| walk_at "pad D1 4") => `(tactic| fail)
local macro_rules | `(tactic| walk_at "pad D1 5") => `(tactic| fail)
local macro_rules | `(tactic| walk_at "pad D1 6") => `(tactic| fail)
local macro_rules | `(tactic| walk_at "pad D1 7") => `(tactic| fail)
local macro_rules | `(tactic| walk_at "pad D1 8") => `(tactic| fail)
local macro_rules | `(tactic| walk_at "pad D1 9") => `(tactic| fail)
local macro_rules | `(tactic| walk_at "pad D1 10") => `(tactic| fail)
theorem kept_part21 (h : hd.heap_39 = hd.heap_39 → PySem.Challenge.rw_fc0017_01 = PySem.Challenge.rw_fc0017_01) : True := by
  revert h
  k_fill
  w_top off
  k_with_none
  intro _; trivial
local macro_rules | `(tactic| walk_at "my enter") => `(tactic| (refine' code_def ?k1 ?k2 ?k3 ?k4 ?k5 ?kA ?kF ?kK ?k6 ?k7 ?k8 ?k9 ?kB ?_ ?c2 ?c3 ?c4 ?c5; (case kA => exact rfl); (case kF => exact rfl); (case kK => assumption); (case k1 => k_asm); (case k2 => k_asm); (case k3 => k_asm); (case k4 => k_asm); (case k5 => k_asm); (case k6 => k_is); (case k7 => k_is); (case k8 => ktr_room); (case k9 => exact BindsTo.of_eq rfl); (case c5 => decide); (case kB => exact locs rfl); (case c2 => exact rfl); (case c3 => exact rfl); (case c4 => exact rfl); k_whole; intro g' L' h' FG' F' N' B' X' T'; (try dsimp only); (try k_lift B'); (try k_fold)))
local macro_rules | `(tactic| walk_at "my use") => `(tactic| ( (case k1 => k_asm); (case k2 => k_asm); (case k3 => k_asm); (case k4 => k_asm); (case k5 => k_asm); (case kK => first | exact rfl | assumption); (case kd => ktr_room); (case ku => ktr_units)))
local macro_rules | `(tactic| walk_at "call ref") => `(tactic| (k_here; k_extra "call ref"))
local macro_rules | `(tactic| walk_at "pyIter ref") => `(tactic| (k_here; k_extra "pyIter ref"))
local macro_rules | `(tactic| walk_at "exec For Name Call cons nil") => `(tactic| (k_here; k_extra "exec For Name Call cons nil"))
local macro_rules | `(tactic| walk_at "exec For Name Name cons nil") => `(tactic| (k_here; (rename Fr _ _ _ _ => lF9); (with_unfolding_all refine' For_invVF lF9 ?k1 ?k2 ?_; (case k1 => exact rfl); (case k2 => exact rfl); k_whole)))
local macro_rules | `(tactic| walk_at "my lt") => `(tactic| first | exact ne_of_allLt (by assumption) | exact ne_of_allLt (allLt_of (by assumption)) | exact ne_of_off1 (by assumption))
local macro_rules | `(tactic| walk_at "my grown") => `(tactic| first | assumption | exact Grown.refl _ | exact Grown.trans (by assumption) (by assumption) | (refine Grown.cons ?_ ?_; (walk_at "my grown"); (walk_at "my lt")) | (refine Grown.dup ?_ ?_; (walk_at "my grown"); (walk_at "my mem")))
local macro_rules | `(tactic| walk_at "my fresh") => `(tactic| first | exact fresh_head (by walk_at "my grown") (by walk_at "my lt") | (refine Fresh.tail ?_; walk_at "my fresh"))
local macro_rules | `(tactic| walk_at "my mem") => `(tactic| first | exact .head _ | assumption | (refine .tail _ ?_; walk_at "my mem") | (refine Grown.sub (by assumption) _ ?_; walk_at "my mem"))
local macro_rules | `(tactic| walk_at "my fit") => `(tactic| k_extra "my fit")
local macro_rules | `(tactic| walk_at "binaryOp Add") => `(tactic| (k_here; (with_reducible show wpAny _ _ (binaryOp Operator.Add (Value.ref _) (Value.ref _)) _ _ _); refine' add_two ?k1 ?k2 ?k3 ?k4 ?k5 ?_; (case k1 => k_asm); (case k2 => k_asm); (case k3 => walk_at "my mem"); (case k4 => walk_at "my mem"); (case k5 => walk_at "my fit"); k_whole; intro a9' h9' F9' N9' l9'))
local macro_rules | `(tactic| walk_at "eval ListComp") => `(tactic| (k_here; k_dflt (refine LCg.ListComp_U (F₀ := by k_asm) (by rfl) (by decide) (by rfl) (by decide) (by rfl) ?_)))
local macro_rules | `(tactic| walk_at "CompSrc") => `(tactic| (k_extra "CompSrc"))
local macro_rules | `(tactic| walk_at "call builtin:str.join") => `(tactic| (k_here; k_extra "call builtin:str.join"))
local macro_rules | `(tactic| walk_at "binaryOp Mult ref int") => `(tactic| (k_here; k_extra "binaryOp Mult ref int"))
local macro_rules | `(tactic| walk_at "call builtin:str.find") => `(tactic| (k_here; k_extra "call builtin:str.find"))
local macro_rules | `(tactic| walk_at "exec While Compare cons nil") => `(tactic| (k_here; k_extra "exec While Compare cons nil"))
/-- the scan of expand_brackets's inner loop: where it stops, and with which count -/
def fin : List Nat → Int → Int → Int × Int
  | [], p, c => (p, c)
  | x :: l, p, c => if c + (if x = 40 then 1 else 0) - (if x = 41 then 1 else 0) = 0 then (p, 0) else fin l (p + 1) (c + (if x = 40 then 1 else 0) - (if x = 41 then 1 else 0))
theorem fin_run {b : List Nat} : ∀ {n k : Nat} {t : List Nat} {p : Int}, 1 ≤ n → run n b = some k → fin (b ++ t) p n = fin t (p + b.length) k := by
  induction b with
  | nil =>
    intro n k t p hn h
    simp only [run, Option.some.injEq] at h
    subst h
    simp
  | cons x l ih =>
    intro n k t p hn h
    simp only [run] at h
    simp only [List.cons_append, fin, List.length_cons]
    by_cases h1 : x = 40
    · rw [if_pos h1] at h
      have h2 : ¬x = 41 := by omega
      rw [if_pos h1, if_neg h2, if_neg (by omega)]
      have := ih (t := t) (p := p + 1) (by omega) h
      have e : (n : Int) + 1 - 0 = ((n + 1 : Nat) : Int) := by omega
      rw [e, this]
      have e2 : p + 1 + (l.length : Int) = p + ((l.length + 1 : Nat) : Int) := by omega
      rw [e2]
    · rw [if_neg h1] at h
      by_cases h2 : x = 41
      · rw [if_pos h2] at h
        split at h
        · cases h
        · rename_i hn2
          rw [if_neg h1, if_pos h2, if_neg (by omega)]
          have := ih (t := t) (p := p + 1) (by omega) h
          have e : (n : Int) + 0 - 1 = ((n - 1 : Nat) : Int) := by omega
          rw [e, this]
          have e2 : p + 1 + (l.length : Int) = p + ((l.length + 1 : Nat) : Int) := by omega
          rw [e2]
      · rw [if_neg h2] at h
        rw [if_neg h1, if_neg h2, if_neg (by omega)]
        have := ih (t := t) (p := p + 1) hn h
        have e : (n : Int) + 0 - 0 = (n : Int) := by omega
        rw [e, this]
        have e2 : p + 1 + (l.length : Int) = p + ((l.length + 1 : Nat) : Int) := by omega
        rw [e2]
theorem fin_close {b c : List Nat} {p : Int} (h : run 1 b = some 1) : fin (b ++ 41 :: c) p 1 = (p + b.length, 0) := by
  have := fin_run (t := 41 :: c) (p := p) (Nat.le_refl 1) h
  have e : ((1 : Nat) : Int) = 1 := rfl
  rw [e] at this
  rw [this]
  simp [fin]
theorem fin_open {b : List Nat} {k : Nat} {p : Int} (h : run 1 b = some k) : fin b p 1 = (p + b.length, (k : Int)) := by
  have := fin_run (t := []) (p := p) (Nat.le_refl 1) h
  rw [List.append_nil] at this
  exact this

/-- Ends, its steps counted -/
inductive EndsN (B : Nat) : Nat → List Nat → Option (List Nat) → Prop
  | stop {n : Nat} {y : List Nat} : 40 ∉ y → EndsN B n y (some y)
  | plain {n : Nat} {a b c : List Nat} {r : Option (List Nat)} : 40 ∉ a → a.getLast? ≠ some 42 → run 1 b = some 1 → (a ++ (b ++ c)).length ≤ B → EndsN B n (a ++ (b ++ c)) r →
      EndsN B (n + 1) (a ++ 40 :: (b ++ 41 :: c)) r
  | nought {n : Nat} {a b c : List Nat} {r : Option (List Nat)} : 40 ∉ a → (∀ k, a.getLast? = some k → nodig k = true) → run 1 b = some 1 → (a ++ c).length ≤ B → EndsN B n (a ++ c) r →
      EndsN B (n + 1) (a ++ 48 :: 42 :: 40 :: (b ++ 41 :: c)) r
  | times {n : Nat} {a b c : List Nat} {d : Nat} {r : Option (List Nat)} : 40 ∉ a → (∀ k, a.getLast? = some k → nodig k = true) → d < 9 → run 1 b = some 1 →
      (a ++ (joinC (List.replicate (d + 1) b) ++ c)).length ≤ B → EndsN B n (a ++ (joinC (List.replicate (d + 1) b) ++ c)) r →
      EndsN B (n + 1) (a ++ (48 + (d + 1)) :: 42 :: 40 :: (b ++ 41 :: c)) r
  | opened {n : Nat} {a b : List Nat} {k : Nat} : 40 ∉ a → run 1 b = some k → EndsN B n (a ++ 40 :: b) none
  | star {n : Nat} {a b c : List Nat} : 40 ∉ a → (∀ k, a.getLast? = some k → nodig k = true) → run 1 b = some 1 → EndsN B n (a ++ 42 :: 40 :: (b ++ 41 :: c)) none
theorem Ends.count {B : Nat} {y : List Nat} {r : Option (List Nat)} (h : Ends B y r) : ∃ n, EndsN B n y r := by
  induction h with
  | stop h => exact ⟨0, .stop h⟩
  | plain h1 h2 h3 h4 _ ih => obtain ⟨n, hn⟩ := ih; exact ⟨n + 1, .plain h1 h2 h3 h4 hn⟩
  | nought h1 h2 h3 h4 _ ih => obtain ⟨n, hn⟩ := ih; exact ⟨n + 1, .nought h1 h2 h3 h4 hn⟩
  | times h1 h2 h3 h4 h5 _ ih => obtain ⟨n, hn⟩ := ih; exact ⟨n + 1, .times h1 h2 h3 h4 h5 hn⟩
  | opened h1 h2 => exact ⟨0, .opened h1 h2⟩
  | star h1 h2 h3 => exact ⟨0, .star h1 h2 h3⟩

theorem s_paren : Str.ofString "(" = ⟨#[40]⟩ := by decide +kernel
theorem SS_getD (a : List Nat) (i : Nat) : (SS a).cps.getD i 0 = a.getD i 0 := by
  show a.toArray.getD i 0 = _
  simp [Array.getD_eq_getD_getElem?, List.getD_eq_getElem?_getD]
theorem from0 (n : Nat) : fromIndex n 0 = 0 := by simp [fromIndex]
theorem find_open {a b : List Nat} (h : 40 ∉ a) : Txt.find (SS (a ++ 40 :: b)) (Str.ofString "(") = (a.length : Int) := by
  rw [s_paren, find_is_find3]
  have hl : (SS (a ++ 40 :: b)).length = a.length + (b.length + 1) := by rw [SS_len]; simp
  have hat : (SS (a ++ 40 :: b)).cps.getD a.length 0 = 40 := by rw [SS_getD]; simp
  rcases StrLaws.find3_spec (SS (a ++ 40 :: b)) 40 0 with ⟨_, hn⟩ | ⟨k, e, _, hk, hc, hb⟩
  · exact absurd hat (hn a.length (by rw [from0]; omega) (by omega))
  · rw [e]
    rw [from0] at hb
    have h1 : ¬a.length < k := fun q => hb a.length (by omega) q hat
    have h2 : ¬k < a.length := fun q => by
      rw [SS_getD, List.getD_eq_getElem?_getD, List.getElem?_append_left q, List.getElem?_eq_getElem q] at hc
      exact h (by simp only [Option.getD_some] at hc; exact hc ▸ List.getElem_mem q)
    omega
theorem find_none {a : List Nat} (h : 40 ∉ a) : Txt.find (SS a) (Str.ofString "(") = -1 := by
  rw [s_paren, find_is_find3]
  rcases StrLaws.find3_spec (SS a) 40 0 with ⟨e, _⟩ | ⟨k, e, _, hk, hc, hb⟩
  · exact e
  · rw [SS_len] at hk
    rw [SS_getD, List.getD_eq_getElem?_getD, List.getElem?_eq_getElem hk] at hc
    exact absurd (hc ▸ List.getElem_mem hk) h
theorem cut_next {M : Model} {A : Around} {t : Sem Flow} {Q : Flow → Shared → Prop} {E : Value → Shared → Prop} {s : Shared} (P : Shared → Prop) (h : wpAny M A t (fun f s' => f = .next ∧ P s') E s) (k : ∀ s', P s' → Q .next s') : wpAny M A t Q E s :=
  wpAny_mono h (fun f s' hp => by obtain ⟨rfl, hp⟩ := hp; exact k s' hp) fun _ _ e => e

/-- between the turns of expand_brackets's inner loop -/
def InJ (y : List Nat) (R : Int × Int) (news : Led) (m₀ : Str → Option Value) (n : Nat) (m : Str → Option Value) (nx : Led) : Prop :=
  nx = news ∧ (∀ z, z ≠ Str.ofString "p" → z ≠ Str.ofString "count" → m z = m₀ z) ∧
  ∃ p c tp tc, m (Str.ofString "p") = some (.int p tp) ∧ m (Str.ofString "count") = some (.int c tc) ∧ 0 ≤ p ∧ p ≤ y.length ∧ fin (y.drop p.toNat) p c = R ∧ n = y.length - p.toNat ∧ c ≠ 0
theorem fin_at {y : List Nat} {p : Int} (h0 : 0 ≤ p) (h1 : p < y.length) {c : Int} : fin (y.drop p.toNat) p c =
    if c + (if y.getD p.toNat 0 = 40 then 1 else 0) - (if y.getD p.toNat 0 = 41 then 1 else 0) = 0 then (p, 0)
    else fin (y.drop (p + 1).toNat) (p + 1) (c + (if y.getD p.toNat 0 = 40 then 1 else 0) - (if y.getD p.toNat 0 = 41 then 1 else 0)) := by
  have hp : p.toNat < y.length := by omega
  have e : y.drop p.toNat = y.getD p.toNat 0 :: y.drop (p + 1).toNat := by
    rw [show (p + 1).toNat = p.toNat + 1 by omega, List.getD_eq_getElem?_getD, List.getElem?_eq_getElem hp]
    exact List.drop_eq_getElem_cons hp
  conv => lhs; rw [e]
  rfl
theorem find_call {prog : Program} {w : World} {A : Around} {E : Value → Shared → Prop} {s : Shared} {x y : Str} {t u : Tok} {z : Int} {Q : Value → Shared → Prop} (h : Txt.find x y = z) (hq : ∀ t' k', Q (.int z t') { s with toks := k' }) : wpAny (model prog w) A (call (.builtin "str.find") [.str x t, .str y u]) Q E s :=
  SC.find (by rw [h]; exact hq _ _)
theorem inner_cut {M : Model} {A : Around} {t : Sem Flow} {Q : Flow → Shared → Prop} {E : Value → Shared → Prop} {s : Shared} {g : Heap} {L : Addr} {m₀ : Str → Option Value} (F : Fr g L s.heap m₀) (P : (Str → Option Value) → Shared → Prop) (h : wpAny M A t (fun f s' => f = .next ∧ P m₀ s') E s) (k : ∀ s', P m₀ s' → Q .next s') : wpAny M A t Q E s :=
  cut_next (P m₀) h k
theorem while_m {prog : Program} {w : World} {A : Around} {E : Value → Shared → Prop} {Q : Flow → Shared → Prop} {s : Shared} {env : Env} {h₀ : Heap} {L : Addr} {test : PySem.Expr} {body : List Stmt} {pos : Pos} {m : Str → Option Value} {news : List (Addr × Obj)} (J : (Str → Option Value) → Nat → (Str → Option Value) → List (Addr × Obj) → Prop) {n₀ : Nat}
    (F : Fr h₀ L s.heap m) (N : News h₀ L s.heap news) (hJ : J m n₀ m news)
    (turn : ∀ n m₁ news₁ h₁ tk₁, Fr h₀ L h₁ m₁ → News h₀ L h₁ news₁ → J m n m₁ news₁ →
      wpAny (model prog w) A (isTrue test env (eval test env)) (fun b s₂ =>
        if b = true then wpAny (model prog w) A (execs body env) (WhileStep2 h₀ L s (J m) Q n) E s₂ else Q .next s₂) E { s with heap := h₁, toks := tk₁ })
    (hE : PassesOwn (model prog w) A env E) :
    wpAny (model prog w) A (exec (.While test body [] pos) env) Q E s := While_inv2 (J m) F N hJ turn hE
def InP (g : Heap) (L : Addr) (s₀ : Shared) (news : Led) (R : Int × Int) (m₀ : Str → Option Value) (s' : Shared) : Prop :=
  ∃ (h' : Heap) (tk' : Nat) (tp tc : Tok), s' = { s₀ with heap := h', toks := tk' } ∧ Fr g L h' (fun z => if z = Str.ofString "p" then some (.int R.1 tp) else if z = Str.ofString "count" then some (.int R.2 tc) else m₀ z) ∧ News g L h' news
theorem InJ.start {y : List Nat} {R : Int × Int} {news : Led} {m₀ : Str → Option Value} {i : Int} {t1 t2 : Tok} (h1 : m₀ (Str.ofString "p") = some (.int (i + 1) t1)) (h2 : m₀ (Str.ofString "count") = some (.int 1 t2)) (hi : 0 ≤ i) (hle : i + 1 ≤ y.length) (hf : fin (y.drop (i + 1).toNat) (i + 1) 1 = R) : InJ y R news m₀ (y.length - (i + 1).toNat) m₀ news :=
  ⟨rfl, fun _ _ _ => rfl, i + 1, 1, t1, t2, h1, h2, by omega, hle, hf, rfl, by decide⟩

end Mine
end

section
set_option Elab.async false
set_option autoImplicit false
open PySem PySem.Spec PySem.Builtin PySem.Builtin.Str PyProof.Rows
namespace Mine

theorem SS_item {y : List Nat} {i : Int} (h0 : 0 ≤ i) (h1 : i < y.length) : Txt.item (SS y) i = SS [y.getD i.toNat 0] := by
  have e : seqIndex? i (SS y).length = some i.toNat := by
    unfold seqIndex?
    rw [SS_len]
    have e1 : (if i < 0 then i + (y.length : Int) else i) = i := if_neg (by omega)
    simp only [e1]
    rw [if_pos (by simp [h0, h1])]
  show (⟨#[(Txt.charAt (SS y) i).getD 0]⟩ : Str) = ⟨[y.getD i.toNat 0].toArray⟩
  unfold Txt.charAt
  rw [e]
  show (⟨#[(((SS y).cps)[i.toNat]?).getD 0]⟩ : Str) = _
  have e2 : (SS y).cps[i.toNat]? = y[i.toNat]? := by
    show y.toArray[i.toNat]? = _
    simp
  rw [e2]
  simp [List.getD_eq_getElem?_getD]
theorem SS_eq {a b : List Nat} : (SS a == SS b) = (a == b) := by
  by_cases h : a = b
  · subst h; simp
  · have : SS a ≠ SS b := fun q => h (by have := congrArg (fun x : Str => x.cps.toList) q; simpa [SS] using this)
    rw [beq_eq_false_iff_ne.mpr this, beq_eq_false_iff_ne.mpr h]
theorem SS_slice {y : List Nat} {i j : Int} (h0 : 0 ≤ i) (h1 : i ≤ j) (h2 : j ≤ y.length) : Txt.slice (SS y) (some i) (some j) = SS ((y.drop i.toNat).take (j - i).toNat) :=
  eq_of_beq (slice_closesL h0 h1 (by rw [SS_len]; exact h2))
theorem SS_from {y : List Nat} {i : Int} (h0 : 0 ≤ i) (h2 : i ≤ y.length) : Txt.slice (SS y) (some i) none = SS (y.drop i.toNat) := by
  rw [slice_from_eq (b := (y.length : Int)) h0 (by rw [SS_len]; exact h2) (by rw [SS_len])]
  show SS _ = _
  congr 1
  apply List.take_of_length_le
  show ((y.drop i.toNat).length) ≤ _
  rw [List.length_drop]
  omega
theorem SS_slice0 {a t : List Nat} {j : Int} (h : j = a.length) : Txt.slice (SS (a ++ t)) (some 0) (some j) = SS a := by
  subst h
  rw [SS_slice (by omega) (by omega) (by simp; omega)]
  simp
theorem SS_mid {a b c : List Nat} {i j : Int} (hi : i = a.length) (hj : j = i + b.length) : Txt.slice (SS (a ++ (b ++ c))) (some i) (some j) = SS b := by
  subst hi hj
  rw [SS_slice (by omega) (by omega) (by simp; omega)]
  have e : ((a.length : Int) + b.length - a.length).toNat = b.length := by omega
  rw [e]
  simp
theorem SS_rest {a b : List Nat} {i : Int} (hi : i = a.length) : Txt.slice (SS (a ++ b)) (some i) none = SS b := by
  subst hi
  rw [SS_from (by omega) (by simp; omega)]
  simp
theorem b2i_open (x : Nat) : b2i (SS [x] == Str.ofString "(") = if x = 40 then 1 else 0 := by
  rw [s_paren]
  show b2i (SS [x] == SS [40]) = _
  rw [SS_eq]
  by_cases h : x = 40
  · subst h; rfl
  · rw [if_neg h]; simp [h, b2i]
theorem b2i_close (x : Nat) : b2i (SS [x] == Str.ofString ")") = if x = 41 then 1 else 0 := by
  rw [show Str.ofString ")" = SS [41] by decide +kernel]
  rw [SS_eq]
  by_cases h : x = 41
  · subst h; rfl
  · rw [if_neg h]; simp [h, b2i]
theorem last_star {a t : List Nat} {p : Int} (h : p = a.length) (hp : 0 < p) : (Txt.item (SS (a ++ t)) (p - 1) != Str.ofString "*") = (a.getLast? != some 42) := by
  have hne : a ≠ [] := by intro q; subst q; simp at h; omega
  rw [SS_item (by omega) (by simp; omega), show Str.ofString "*" = SS [42] by decide +kernel]
  unfold bne
  rw [SS_eq]
  have e : (a ++ t).getD (p - 1).toNat 0 = a.getLast hne := by
    subst h
    have : ((a.length : Int) - 1).toNat = a.length - 1 := by omega
    rw [this, List.getD_eq_getElem?_getD, List.getElem?_append_left (by omega), List.getLast_eq_getElem, List.getElem?_eq_getElem (by omega)]
    rfl
  rw [e, List.getLast?_eq_some_getLast hne]
  simp
end Mine
end

section
open PySem PySem.W PySem.Spec PySem.Calls PyProof.Rows
set_option Elab.async false
set_option maxRecDepth 100000
set_option maxHeartbeats 8000000
namespace Mine
local macro_rules | `(tactic| walk_at "pad E1 0") => `(tactic| fail)
local macro_rules | `(tactic| walk_at "pad E1 1") => `(tactic| fail)
local macro_rules | `(tactic| walk_at "pad E1 2") => `(tactic| fail)
local macro_rules | `(tactic| walk_at "pad E1 3") => `(tactic| fail)
local macro_rules | `(tactic| walk_at "pad E1 4") => `(tactic| fail)
local macro_rules | `(tactic| walk_at "pad E1 5") => `(tactic| fail)
local macro_rules | `(tactic| walk_at "pad E1 6") => `(tactic| fail)
local macro_rules | `(tactic| walk_at "pad E1 7") => `(tactic| fail)
local macro_rules | `(tactic| walk_at "pad E1 8") => `(tactic| fail)
local macro_rules | `(tactic| walk_at "pad E1 9") => `(tactic| fail)
local macro_rules | `(tactic| walk_at "pad E1 10") => `(tactic| fail)
local macro_rules | `(tactic| walk_at "pad E1 11") => `(tactic| fail)
theorem kept_part30 (h : hd.heap_39 = hd.heap_39 → PySem.Challenge.rw_fc0017_01 = PySem.Challenge.rw_fc0017_01) : True := by
  revert h
  k_fill
  w_top off
  k_with_none
  intro _; trivial
/-- as Con, of a call that may raise ValueError -/
def ConX (w : World) (f : Addr) (vs : List Value) (dep un' : Nat) (base : Heap) (news : Led) (Post : (Addr × Obj → Prop) → Value → Prop) (Ex : Prop) : Prop :=
  ∀ (mean : ExcName → Option Value) (mg mb : Str → Option Value)
    (dp un : Nat) (gd : Option (List Code)) (cn : Str) (cs : Scope) (a : Addr) (ccd : Value) (cl : List (Str × Addr)) (outer : List Env) (A₀ : Around) (h₀ : Heap) (L : Addr) (m : Str → Option Value) (s : Shared)
    (Q E : Value → Shared → Prop),
    Below A₀ base outer h₀ → Fr h₀ L s.heap m → (hd.heap_39 w.params).In h₀ → News h₀ L s.heap news → Top hd.view_39 LS mean mg mb h₀ → cs.kind = .function →
    dp + dep < recursionLimit → un + un' < cLine →
    (∀ r news' h' tk', Fr h₀ L h' m → News h₀ L h' news' → Grown news news' → Post (Fresh news news') r → Q r { s with heap := h', toks := tk' }) →
    (∀ g' h' tk' e news', Ex → Fr h₀ L g' m → RaisedSN base g' (envX cn cs L a ccd cl :: outer) e (.type "ValueError") news' h' → Grown news news' → g'.UpToSlots h' → E (.ref e) { s with heap := h', toks := tk' }) →
    wpAny (model prg w) (ktrTop dp un gd cn cs L a ccd cl outer) (call (.ref f) vs) Q E s
theorem ConX.con {w : World} {f : Addr} {vs : List Value} {dep un' : Nat} {base : Heap} {news : Led} {Post : (Addr × Obj → Prop) → Value → Prop} {Ex : Prop} (C : ConX w f vs dep un' base news Post Ex) (h : ¬Ex) : Con w f vs dep un' base news Post :=
  fun mean mg mb dp un gd cn cs a ccd cl outer A₀ h₀ L m s Q E B F X N T hk hd hu hret => C mean mg mb dp un gd cn cs a ccd cl outer A₀ h₀ L m s Q E B F X N T hk hd hu hret fun _ _ _ _ _ x => absurd x h
theorem conx_use {w : World} {f : Addr} {vs : List Value} {dep un' : Nat} {base : Heap} {news : Led} {Post : (Addr × Obj → Prop) → Value → Prop} {Ex : Prop} (C : ConX w f vs dep un' base news Post Ex) {mean : ExcName → Option Value} {mg mb : Str → Option Value}
    {dp un : Nat} {gd : Option (List Code)} {cn : Str} {cs : Scope} {a : Addr} {ccd : Value} {cl : List (Str × Addr)} {outer : List Env} {A₀ : Around} {h₀ : Heap} {L : Addr} {m : Str → Option Value} {s : Shared}
    {Q E : Value → Shared → Prop} (B : Below A₀ base outer h₀) (F : Fr h₀ L s.heap m) (X : (hd.heap_39 w.params).In h₀) (N : News h₀ L s.heap news) (T : Top hd.view_39 LS mean mg mb h₀) (hk : cs.kind = .function)
    (hd : dp + dep < recursionLimit) (hu : un + un' < cLine)
    (hret : ∀ r news' h' tk', Fr h₀ L h' m → News h₀ L h' news' → Grown news news' → Post (Fresh news news') r → Q r { s with heap := h', toks := tk' })
    (hexc : ∀ g' h' tk' e news', Ex → Fr h₀ L g' m → RaisedSN base g' (envX cn cs L a ccd cl :: outer) e (.type "ValueError") news' h' → Grown news news' → g'.UpToSlots h' → E (.ref e) { s with heap := h', toks := tk' }) :
    wpAny (model prg w) (ktrTop dp un gd cn cs L a ccd cl outer) (call (.ref f) vs) Q E s := C mean mg mb dp un gd cn cs a ccd cl outer A₀ h₀ L m s Q E B F X N T hk hd hu hret hexc

/-- what stands before the bracket, when it is a count -/
def mulT : Nat → List Nat → List Nat
  | 0, _ => []
  | d + 1, b => joinC (List.replicate (d + 1) b)
theorem EndsN.look {B n : Nat} {y : List Nat} {r : Option (List Nat)} (h : EndsN B n y r) :
    (40 ∉ y ∧ r = some y) ∨
    (∃ n' a b c, n = n' + 1 ∧ y = a ++ 40 :: (b ++ 41 :: c) ∧ 40 ∉ a ∧ run 1 b = some 1 ∧ a.getLast? ≠ some 42 ∧ (a ++ (b ++ c)).length ≤ B ∧ EndsN B n' (a ++ (b ++ c)) r) ∨
    (∃ n' a d b c, n = n' + 1 ∧ y = (a ++ [48 + d, 42]) ++ 40 :: (b ++ 41 :: c) ∧ 40 ∉ a ∧ run 1 b = some 1 ∧ (∀ k, a.getLast? = some k → nodig k = true) ∧ d ≤ 9 ∧ (a ++ (mulT d b ++ c)).length ≤ B ∧ EndsN B n' (a ++ (mulT d b ++ c)) r) ∨
    (∃ a b k, y = a ++ 40 :: b ∧ 40 ∉ a ∧ run 1 b = some k ∧ r = none) ∨
    (∃ a b c, y = (a ++ [42]) ++ 40 :: (b ++ 41 :: c) ∧ 40 ∉ a ∧ run 1 b = some 1 ∧ (∀ k, a.getLast? = some k → nodig k = true) ∧ r = none) := by
  cases h with
  | stop h => exact .inl ⟨h, rfl⟩
  | @plain n a b c r h1 h2 h3 h4 h5 => exact .inr (.inl ⟨_, a, b, c, rfl, rfl, h1, h3, h2, h4, h5⟩)
  | @nought n a b c r h1 h2 h3 h4 h5 => exact .inr (.inr (.inl ⟨_, a, 0, b, c, rfl, by simp, h1, h3, h2, by omega, h4, h5⟩))
  | @times n a b c d r h1 h2 h3 h4 h5 h6 => exact .inr (.inr (.inl ⟨_, a, d + 1, b, c, rfl, by simp, h1, h4, h2, by omega, h5, h6⟩))
  | @opened n a b k h1 h2 => exact .inr (.inr (.inr (.inl ⟨a, b, k, rfl, h1, h2, rfl⟩)))
  | @star n a b c h1 h2 h3 => exact .inr (.inr (.inr (.inr ⟨a, b, c, by simp, h1, h3, h2, rfl⟩)))
theorem run_ge {b : List Nat} : ∀ {n k : Nat}, 1 ≤ n → run n b = some k → 1 ≤ k := by
  induction b with
  | nil => intro n k hn h; simp only [run, Option.some.injEq] at h; omega
  | cons x l ih =>
    intro n k hn h
    simp only [run] at h
    split at h
    · exact ih (by omega) h
    · split at h
      · split at h
        · cases h
        · exact ih (by omega) h
      · exact ih hn h

theorem getD_app {a t : List Nat} {k : Nat} (h : k < a.length) : (SS (a ++ t)).cps.getD k 0 = a.getD k 0 := by
  rw [SS_getD, List.getD_eq_getElem?_getD, List.getElem?_append_left h, List.getD_eq_getElem?_getD]
theorem getD_app2 {a t : List Nat} {k : Nat} : (SS (a ++ t)).cps.getD (a.length + k) 0 = t.getD k 0 := by
  rw [SS_getD, List.getD_eq_getElem?_getD, List.getElem?_append_right (by omega), Nat.add_sub_cancel_left, List.getD_eq_getElem?_getD]
theorem not_in_getD {a : List Nat} (h : 40 ∉ a) {k : Nat} (hk : k < a.length) : a.getD k 0 ≠ 40 := by
  rw [List.getD_eq_getElem?_getD, List.getElem?_eq_getElem hk]
  intro e
  exact h (by simp only [Option.getD_some] at e; exact e ▸ List.getElem_mem hk)
theorem last_nodig {a : List Nat} (h : ∀ k, a.getLast? = some k → nodig k = true) (ha : 0 < a.length) : Unicode.isDecimal (a.getD (a.length - 1) 0) = false := by
  have hne : a ≠ [] := by intro q; subst q; simp at ha
  have e : a.getD (a.length - 1) 0 = a.getLast hne := by
    rw [List.getD_eq_getElem?_getD, List.getLast_eq_getElem, List.getElem?_eq_getElem (by omega)]
    rfl
  have := h _ (List.getLast?_eq_some_getLast hne)
  rw [e]
  generalize a.getLast hne = z at this
  unfold nodig at this
  simp only [Bool.or_eq_true, beq_iff_eq] at this
  rcases this with rfl | rfl
  · exact D44
  · exact D117
theorem ten_bound {n : Nat} (h : n ≤ 2 ^ 24) : n * (4 * n + 20) + (4 * n + 20) ≤ 2 ^ 66 := by
  have h1 : n * (4 * n + 20) ≤ 2 ^ 24 * (4 * 2 ^ 24 + 20) := Nat.mul_le_mul h (by omega)
  omega
theorem count_found {a t : List Nat} {d : Nat} (h40 : 40 ∉ a) (hl : ∀ k, a.getLast? = some k → nodig k = true) (hd : d ≤ 9) (hlen : a.length + 3 ≤ 2 ^ 24) :
    Comes (2 ^ 66) (Sre.forSearch BC (SS ((a ++ [48 + d, 42]) ++ 40 :: t)).cps 1 0 (a.length + 3) false) (Found 1 a.length (a.length + 3) 1 [(a.length : Int), ((a.length + 1 : Nat) : Int)]) := by
  have e : (a ++ [48 + d, 42]) ++ 40 :: t = a ++ ((48 + d) :: 42 :: 40 :: t) := by simp
  rw [e]
  have hb := ten_bound hlen
  have w0 : (SS (a ++ ((48 + d) :: 42 :: 40 :: t))).cps.getD a.length 0 = 48 + d := by simpa using getD_app2 (a := a) (t := (48 + d) :: 42 :: 40 :: t) (k := 0)
  have w1 : (SS (a ++ ((48 + d) :: 42 :: 40 :: t))).cps.getD (a.length + 1) 0 = 42 := by simpa using getD_app2 (a := a) (t := (48 + d) :: 42 :: 40 :: t) (k := 1)
  have w2 : (SS (a ++ ((48 + d) :: 42 :: 40 :: t))).cps.getD (a.length + 2) 0 = 40 := by simpa using getD_app2 (a := a) (t := (48 + d) :: 42 :: 40 :: t) (k := 2)
  have hn : decs (SS (a ++ ((48 + d) :: 42 :: 40 :: t))).cps (a.length + 3 - a.length) a.length = 0 + 1 := by
    rw [Nat.add_sub_cancel_left]
    rw [decs, w0, if_pos (D_digit d hd), decs, w1, if_neg (by rw [D42]; decide)]
  have := search_found (t := (SS (a ++ ((48 + d) :: 42 :: 40 :: t))).cps) (lim := a.length + 3) (i := a.length) (n := 0) (by omega) ?_ ?_ hn w1 w2 (by omega)
  · obtain ⟨k, hk, hm⟩ := this
    exact ⟨k, by omega, by simpa using hm.found (by omega)⟩
  · intro k hk
    by_cases q : k < a.length
    · rw [getD_app q]; exact not_in_getD h40 q
    · by_cases q2 : k = a.length
      · subst q2; rw [w0]; omega
      · have : k = a.length + 1 := by omega
        subst this; rw [w1]; omega
  · intro k hk
    have h0 : Unicode.isDecimal ((SS (a ++ ((48 + d) :: 42 :: 40 :: t))).cps.getD (a.length - 1) 0) = false := by
      rw [getD_app (by omega)]; exact last_nodig hl (by omega)
    have := decs_before (n := a.length + 3 - k) (p := k) (e := a.length - 1) (by omega) h0
    omega
theorem count_lost {a t : List Nat} (h40 : 40 ∉ a) (hl : ∀ k, a.getLast? = some k → nodig k = true) (hlen : a.length + 2 ≤ 2 ^ 24) :
    Comes (2 ^ 66) (Sre.forSearch BC (SS ((a ++ [42]) ++ 40 :: t)).cps 1 0 (a.length + 2) false) (fun m => m.outcome = some .failed) := by
  have e : (a ++ [42]) ++ 40 :: t = a ++ (42 :: 40 :: t) := by simp
  rw [e]
  have hb := ten_bound hlen
  have w0 : (SS (a ++ (42 :: 40 :: t))).cps.getD a.length 0 = 42 := by simpa using getD_app2 (a := a) (t := 42 :: 40 :: t) (k := 0)
  have := search_lost (t := (SS (a ++ (42 :: 40 :: t))).cps) (lim := a.length + 2) (by omega) ?_ ?_
  · exact Comes.mono this (by omega)
  · intro k hk
    by_cases q : k < a.length
    · rw [getD_app q]; exact not_in_getD h40 q
    · have : k = a.length := by omega
      subst this; rw [w0]; omega
  · intro k hk
    by_cases q : k < a.length
    · have h0 : Unicode.isDecimal ((SS (a ++ (42 :: 40 :: t))).cps.getD (a.length - 1) 0) = false := by
        rw [getD_app (by omega)]; exact last_nodig hl (by omega)
      have := decs_before (n := a.length + 2 - k) (p := k) (e := a.length - 1) (by omega) h0
      exact .inr (.inl (by omega))
    · have : k = a.length := by omega
      subst this
      exact .inl fun _ => by rw [w0]; exact D42
theorem count_text {a t : List Nat} {d : Nat} : (⟨(SS ((a ++ [48 + d, 42]) ++ 40 :: t)).cps.extract a.length (a.length + 1)⟩ : Str) = SS [48 + d] := by
  show (⟨_⟩ : Str) = ⟨[48 + d].toArray⟩
  congr 1
  show ((a ++ [48 + d, 42]) ++ 40 :: t).toArray.extract a.length (a.length + 1) = _
  simp
theorem count_int : ∀ d, d ≤ 9 → PySem.intText? (SS [48 + d]) = some (d : Int) := by
  intro d hd
  have : ∀ d : Fin 10, PySem.intText? (SS [48 + d.val]) = some (d.val : Int) := by decide +kernel
  exact this ⟨d, by omega⟩
theorem bracket_pat {w : World} {h : Heap} (X : (hd.heap_39 w.params).In h) : Pat h 70 69 67 BC 1 := by
  exact ⟨⟨_, _, _, X 70 _ (by k_is)⟩, ⟨_, _, X 69 _ (by k_is), by decide +kernel⟩⟩
end Mine
end

section
open PySem PySem.W PySem.Spec PySem.Calls PyProof.Rows
set_option Elab.async false
set_option maxRecDepth 100000
set_option maxHeartbeats 8000000
namespace Mine
def StepP (B n : Nat) (y : List Nat) (i q : Int) (r : Option (List Nat)) : Prop :=
  ∃ n' a b c, n = n' + 1 ∧ y = a ++ 40 :: (b ++ 41 :: c) ∧ i = a.length ∧ q = i + 1 + b.length ∧ a.getLast? ≠ some 42 ∧ (a ++ (b ++ c)).length ≤ B ∧ EndsN B n' (a ++ (b ++ c)) r
def StepN (B n : Nat) (y : List Nat) (i q : Int) (r : Option (List Nat)) (a : List Nat) (d : Nat) : Prop :=
  ∃ n' b c, n = n' + 1 ∧ y = (a ++ [48 + d, 42]) ++ 40 :: (b ++ 41 :: c) ∧ i = a.length + 2 ∧ q = i + 1 + b.length ∧ 40 ∉ a ∧ (∀ k, a.getLast? = some k → nodig k = true) ∧ d ≤ 9 ∧ (a ++ (mulT d b ++ c)).length ≤ B ∧ EndsN B n' (a ++ (mulT d b ++ c)) r
def StepS (y : List Nat) (i : Int) (r : Option (List Nat)) : Prop :=
  ∃ a t, y = (a ++ [42]) ++ 40 :: t ∧ i = a.length + 1 ∧ 40 ∉ a ∧ (∀ k, a.getLast? = some k → nodig k = true) ∧ r = none
def Turn (B n : Nat) (y : List Nat) (i q k : Int) (r : Option (List Nat)) : Prop :=
  (1 ≤ k ∧ r = none) ∨ (k = 0 ∧ q < y.length ∧ (StepP B n y i q r ∨ (∃ a d, StepN B n y i q r a d) ∨ StepS y i r))
theorem fin_of_close {a b c : List Nat} (h : run 1 b = some 1) : fin ((a ++ 40 :: (b ++ 41 :: c)).drop ((a.length : Int) + 1).toNat) ((a.length : Int) + 1) 1 = ((a.length : Int) + 1 + b.length, 0) := by
  rw [show ((a.length : Int) + 1).toNat = a.length + 1 by omega, show (a ++ 40 :: (b ++ 41 :: c)) = (a ++ [40]) ++ (b ++ 41 :: c) by simp, List.drop_append_of_le_length (by simp)]
  simpa using fin_close (p := (a.length : Int) + 1) (c := c) h
theorem fin_of_open {a b : List Nat} {k : Nat} (h : run 1 b = some k) : fin ((a ++ 40 :: b).drop ((a.length : Int) + 1).toNat) ((a.length : Int) + 1) 1 = ((a.length : Int) + 1 + b.length, (k : Int)) := by
  rw [show ((a.length : Int) + 1).toNat = a.length + 1 by omega, show (a ++ 40 :: b) = (a ++ [40]) ++ b by simp, List.drop_append_of_le_length (by simp)]
  simpa using fin_open (p := (a.length : Int) + 1) h
theorem EndsN.look2 {B n : Nat} {y : List Nat} {r : Option (List Nat)} (h : EndsN B n y r) :
    (40 ∉ y ∧ r = some y) ∨ ∃ i q k : Int, Txt.find (SS y) (Str.ofString "(") = i ∧ 0 ≤ i ∧ i + 1 ≤ y.length ∧ fin (y.drop (i + 1).toNat) (i + 1) 1 = (q, k) ∧ i + 1 ≤ q ∧ q ≤ y.length ∧ Turn B n y i q k r := by
  rcases h.look with h | ⟨n', a, b, c, rfl, rfl, h1, h2, h3, h4, h5⟩ | ⟨n', a, d, b, c, rfl, rfl, h1, h2, h3, h4, h5, h6⟩ | ⟨a, b, k, rfl, h1, h2, rfl⟩ | ⟨a, b, c, rfl, h1, h2, h3, rfl⟩
  · exact .inl h
  · refine .inr ⟨_, _, _, find_open h1, by omega, by simp; omega, fin_of_close h2, by omega, by simp; omega, .inr ⟨rfl, by simp; omega, .inl ⟨n', a, b, c, rfl, rfl, rfl, rfl, h3, h4, h5⟩⟩⟩
  · have h0 : 40 ∉ a ++ [48 + d, 42] := by simp; exact ⟨h1, by omega⟩
    refine .inr ⟨_, _, _, find_open h0, by omega, by simp; omega, fin_of_close h2, by omega, by simp; omega, .inr ⟨rfl, by simp; omega, .inr (.inl ⟨a, d, n', b, c, rfl, rfl, by simp, rfl, h1, h3, h4, h5, h6⟩)⟩⟩
  · have := run_ge (Nat.le_refl 1) h2
    exact .inr ⟨_, _, _, find_open h1, by omega, by simp; omega, fin_of_open h2, by omega, by simp; omega, .inl ⟨by omega, rfl⟩⟩
  · have h0 : 40 ∉ a ++ [42] := by simp; exact h1
    refine .inr ⟨_, _, _, find_open h0, by omega, by simp; omega, fin_of_close h2, by omega, by simp; omega, .inr ⟨rfl, by simp; omega, .inr (.inr ⟨a, _, rfl, by simp, h1, h3, rfl⟩)⟩⟩
/-- the plain turn -/
theorem Turn.plain {B n : Nat} {y : List Nat} {i q kk : Int} {r : Option (List Nat)} (h : Turn B n y i q kk r) (hk : kk = 0) (h0 : i = 0 ∨ (Txt.item (SS y) (i - 1) != Str.ofString "*") = true) :
    ∃ n' y', n' < n ∧ Txt.slice (SS y) (some 0) (some i) ++ Txt.slice (SS y) (some (i + 1)) (some q) ++ Txt.slice (SS y) (some (q + 1)) none = SS y' ∧ EndsN B n' y' r ∧ y'.length ≤ B := by
  rcases h with ⟨h, _⟩ | ⟨_, _, h | ⟨a, d, h⟩ | h⟩
  · omega
  · obtain ⟨n', a, b, c, rfl, rfl, rfl, rfl, h3, h4, h5⟩ := h
    refine ⟨n', _, by omega, ?_, h5, h4⟩
    have e1 : Txt.slice (SS (a ++ 40 :: (b ++ 41 :: c))) (some 0) (some (a.length : Int)) = SS a := SS_slice0 rfl
    have e2 : Txt.slice (SS (a ++ 40 :: (b ++ 41 :: c))) (some ((a.length : Int) + 1)) (some ((a.length : Int) + 1 + b.length)) = SS b := by
      have := SS_mid (a := a ++ [40]) (b := b) (c := 41 :: c) (i := (a.length : Int) + 1) (j := (a.length : Int) + 1 + b.length) (by simp) rfl
      simpa using this
    have e3 : Txt.slice (SS (a ++ 40 :: (b ++ 41 :: c))) (some ((a.length : Int) + 1 + b.length + 1)) none = SS c := by
      have := SS_rest (a := a ++ 40 :: (b ++ [41])) (b := c) (i := (a.length : Int) + 1 + b.length + 1) (by simp; omega)
      simpa using this
    rw [e1, e2, e3, SS_append, SS_append, List.append_assoc]
  · exfalso
    obtain ⟨n', b, c, rfl, rfl, rfl, _⟩ := h
    rcases h0 with h0 | h0
    · omega
    · rw [last_star (by simp) (by omega)] at h0
      simp at h0
  · exfalso
    obtain ⟨a, t, rfl, rfl, _⟩ := h
    rcases h0 with h0 | h0
    · omega
    · rw [last_star (by simp) (by omega)] at h0
      simp at h0
/-- a star stands before the bracket -/
theorem Turn.starred {B n : Nat} {y : List Nat} {i q kk : Int} {r : Option (List Nat)} (h : Turn B n y i q kk r) (hk : kk = 0) (h0 : 0 ≤ i) (h1 : i ≠ 0) (h2 : (Txt.item (SS y) (i - 1) != Str.ofString "*") = false) :
    (∃ a d, StepN B n y i q r a d) ∨ StepS y i r := by
  rcases h with ⟨h, _⟩ | ⟨_, _, h | h | h⟩
  · omega
  · exfalso
    obtain ⟨n', a, b, c, rfl, rfl, rfl, rfl, h3, h4, h5⟩ := h
    rw [last_star rfl (by omega)] at h2
    simp at h2
    exact h3 h2
  · exact .inl h
  · exact .inr h
theorem StepN.zero {B n : Nat} {y : List Nat} {i q : Int} {r : Option (List Nat)} {a : List Nat} (h : StepN B n y i q r a 0) {j : Int} (hj : j = a.length) :
    ∃ n' y', n' < n ∧ Txt.slice (SS y) (some 0) (some j) ++ Txt.slice (SS y) (some (q + 1)) none = SS y' ∧ EndsN B n' y' r ∧ y'.length ≤ B := by
  obtain ⟨n', b, c, rfl, rfl, rfl, rfl, h1, h2, h3, h4, h5⟩ := h
  refine ⟨n', _, by omega, ?_, h5, h4⟩
  have e1 : Txt.slice (SS ((a ++ [48 + 0, 42]) ++ 40 :: (b ++ 41 :: c))) (some 0) (some j) = SS a := by
    have := SS_slice0 (a := a) (t := [48 + 0, 42] ++ 40 :: (b ++ 41 :: c)) (j := j) hj
    simpa using this
  have e3 : Txt.slice (SS ((a ++ [48 + 0, 42]) ++ 40 :: (b ++ 41 :: c))) (some ((a.length : Int) + 2 + 1 + b.length + 1)) none = SS c := by
    have := SS_rest (a := a ++ 48 :: 42 :: 40 :: (b ++ [41])) (b := c) (i := (a.length : Int) + 2 + 1 + b.length + 1) (by simp; omega)
    simpa using this
  rw [e1, e3, SS_append]
  rfl
theorem mulT_join (b : List Nat) : ∀ d, mulT (d + 1) b = (List.replicate d (b ++ [44])).flatten ++ b
  | 0 => by simp [mulT, joinC]
  | d + 1 => by
    have := mulT_join b d
    have e : mulT (d + 1 + 1) b = b ++ 44 :: mulT (d + 1) b := by
      show joinC (b :: b :: List.replicate d b) = b ++ 44 :: joinC (b :: List.replicate d b)
      rfl
    rw [e, this, List.replicate_succ, List.flatten_cons]
    simp
end Mine
end

section
open PySem PySem.W PySem.Spec PySem.Calls PyProof.Rows PySem.Builtin.Str
set_option Elab.async false
set_option maxRecDepth 100000
set_option maxHeartbeats 8000000
namespace Mine
local macro_rules | `(tactic| walk_at "pad Mul 0") => `(tactic| fail)
local macro_rules | `(tactic| walk_at "pad Mul 1") => `(tactic| fail)
local macro_rules | `(tactic| walk_at "pad Mul 2") => `(tactic| fail)
local macro_rules | `(tactic| walk_at "pad Mul 3") => `(tactic| fail)
local macro_rules | `(tactic| walk_at "pad Mul 4") => `(tactic| fail)
local macro_rules | `(tactic| walk_at "pad Mul 5") => `(tactic| fail)
local macro_rules | `(tactic| walk_at "pad Mul 6") => `(tactic| fail)
local macro_rules | `(tactic| walk_at "pad Mul 7") => `(tactic| fail)
local macro_rules | `(tactic| walk_at "pad Mul 8") => `(tactic| fail)
local macro_rules | `(tactic| walk_at "pad Mul 9") => `(tactic| fail)
local macro_rules | `(tactic| walk_at "pad Mul 10") => `(tactic| fail)
local macro_rules | `(tactic| walk_at "pad Mul 11") => `(tactic| fail)
local macro_rules | `(tactic| walk_at "pad Mul 12") => `(tactic| fail)
section
variable {prog : Program} {w : World} {A : Around} {E : Value → Shared → Prop} {s : Shared} {x : Str} {n : Int} {t u : Tok}
theorem mul_str_r0 {Q : Value → Shared → Prop} (hr : (decide (n < -(2 ^ 63 : Int)) || decide (n ≥ 2 ^ 63)) = false)
    (hb : ¬ n < 1 → (n == 1 || x.length == 0) = false → ¬ ((x.length : Int) > (2 ^ 63 - 1) / n)) (hl : ¬ n < 1 → (n == 1 || x.length == 0) = false → tooLong (x.length * n.toNat) = false)
    (h : (if n < 1 then Made.str Str.empty else if (n == 1 || x.length == 0) = true then Made.val (.str x t) else Made.str ⟨(List.replicate n.toNat x.cps).foldl (· ++ ·) #[]⟩).post Q s) :
    wpAny (model prog w) A (binaryOp .Mult (.int n u) (.str x t)) Q E s :=
  lm_binaryOp_repeat_right (T := "str") (U := "int") (by decide) (fun s' => typeIs_int s' n u) (typeIs_str s x t) F.fills_int_mul noFill_str_mul F.slot_int_mul lm_noRepeat_int repeat_str F.slot_int_index.lookup
    (call_gives F.slot_int_mul (typeIs_int s n u) F.entry_int_mul (F.args_int_mul_2 _ _) (AutoIntG3.int___mul___int_str_0 n u x t)
      ⟨rfl, typeIs_str s x t, call_gives F.slot_str_mul (typeIs_str s x t) F.entry_str_mul (F.args_str_mul_2 _ _) (gives_str_mul x n t u hr hb hl) h⟩)
theorem mul_str_r {Q : Value → Shared → Prop} (hok : MulOk x n) (h : ∀ t' k, Q (.str (Txt.mul x n) t') { s with toks := k }) : wpAny (model prog w) A (binaryOp .Mult (.int n u) (.str x t)) Q E s := by
  refine mul_str_r0 hok.1 hok.2.1 hok.2.2 ?_
  unfold Txt.mul at h
  by_cases h1 : n < 1
  · rw [if_pos h1]; have h' := h s.toks (s.toks + 1); rw [if_pos h1] at h'; exact ⟨by decide, h'⟩
  · rw [if_neg h1]; refine post_val_or_made (fun hc => fits_reps (hok.2.2 h1 (by simpa using hc))) fun t' k => ?_
    have h' := h t' k; rw [if_neg h1] at h'; exact h'
end
theorem foldl_app (z : List Nat) : ∀ (n : Nat) (acc : List Nat), (List.replicate n z.toArray).foldl (· ++ ·) acc.toArray = (acc ++ (List.replicate n z).flatten).toArray
  | 0, acc => by simp
  | n + 1, acc => by
    rw [List.replicate_succ, List.foldl_cons, List.append_toArray, foldl_app z n, List.replicate_succ, List.flatten_cons, List.append_assoc]
theorem mul_rep {z : List Nat} {n : Nat} : Txt.mul (SS z) (n : Int) = SS (List.replicate n z).flatten := by
  unfold Txt.mul
  by_cases h : (n : Int) < 1
  · rw [if_pos h]
    have : n = 0 := by omega
    subst this
    rfl
  · rw [if_neg h]
    by_cases h2 : ((n : Int) == 1 || (SS z).length == 0) = true
    · rw [if_pos h2]
      simp only [Bool.or_eq_true, beq_iff_eq] at h2
      rcases h2 with h2 | h2
      · have : n = 1 := by omega
        subst this
        simp
      · rw [SS_len, List.length_eq_zero_iff] at h2
        subst h2
        simp
    · rw [if_neg h2]
      show (⟨_⟩ : Str) = ⟨_⟩
      congr 1
      have := foldl_app z n []
      simp only [List.nil_append] at this
      exact this
theorem StepN.more {B n : Nat} {y : List Nat} {i q : Int} {r : Option (List Nat)} {a : List Nat} {d : Nat} (h : StepN B n y i q r a d) (hd : d ≠ 0) (hy : y.length ≤ 100000) {j : Int} (hj : j = a.length) :
    MulOk (Txt.slice (SS y) (some (i + 1)) (some q) ++ Str.ofString ",") ((d : Int) - 1) ∧ ∃ z, Txt.mul (Txt.slice (SS y) (some (i + 1)) (some q) ++ Str.ofString ",") ((d : Int) - 1) = SS z ∧ (SS z).length ≤ 1000000 ∧
    ∃ n' y', n' < n ∧ Txt.slice (SS y) (some 0) (some j) ++ SS z ++ Txt.slice (SS y) (some (i + 1)) (some q) ++ Txt.slice (SS y) (some (q + 1)) none = SS y' ∧ EndsN B n' y' r ∧ y'.length ≤ B := by
  obtain ⟨n', b, c, rfl, rfl, rfl, rfl, h1, h2, h3, h4, h5⟩ := h
  obtain ⟨e, rfl⟩ : ∃ e, d = e + 1 := ⟨d - 1, by omega⟩
  have hb : b.length ≤ 100000 := by simp at hy; omega
  have e1 : Txt.slice (SS ((a ++ [48 + (e + 1), 42]) ++ 40 :: (b ++ 41 :: c))) (some 0) (some j) = SS a := by
    have := SS_slice0 (a := a) (t := [48 + (e + 1), 42] ++ 40 :: (b ++ 41 :: c)) (j := j) hj
    simpa using this
  have e2 : Txt.slice (SS ((a ++ [48 + (e + 1), 42]) ++ 40 :: (b ++ 41 :: c))) (some ((a.length : Int) + 2 + 1)) (some ((a.length : Int) + 2 + 1 + b.length)) = SS b := by
    have := SS_mid (a := a ++ [48 + (e + 1), 42, 40]) (b := b) (c := 41 :: c) (i := (a.length : Int) + 2 + 1) (j := (a.length : Int) + 2 + 1 + b.length) (by simp; omega) rfl
    simpa using this
  have e3 : Txt.slice (SS ((a ++ [48 + (e + 1), 42]) ++ 40 :: (b ++ 41 :: c))) (some ((a.length : Int) + 2 + 1 + b.length + 1)) none = SS c := by
    have := SS_rest (a := a ++ (48 + (e + 1)) :: 42 :: 40 :: (b ++ [41])) (b := c) (i := (a.length : Int) + 2 + 1 + b.length + 1) (by simp; omega)
    simpa using this
  have e4 : (((e + 1 : Nat) : Int) - 1) = (e : Int) := by omega
  rw [e1, e2, e3, e4, s_comma]
  show MulOk (SS b ++ SS [44]) _ ∧ ∃ z, Txt.mul (SS b ++ SS [44]) _ = _ ∧ _
  rw [SS_append]
  refine ⟨mulOk_of 100001 9 (by rw [SS_len]; simp; omega) (by omega) (by omega) (by decide) (by decide), _, mul_rep, ?_, n', _, by omega, ?_, h5, h4⟩
  · rw [SS_len, List.length_flatten, List.map_replicate, List.sum_replicate_nat]
    have : e * (b ++ [44]).length ≤ 9 * 100001 := Nat.mul_le_mul (by omega) (by simp; omega)
    omega
  · rw [SS_append, SS_append, SS_append, mulT_join]
    simp
theorem StepN.at {B n : Nat} {y : List Nat} {i q : Int} {r : Option (List Nat)} {a : List Nat} {d : Nat} (h : StepN B n y i q r a d) (hy : y.length ≤ 100000) :
    i = a.length + 2 ∧ d ≤ 9 ∧ (∀ x : Str, PySem.intText? (SS [48 + d]) = some (d : Int)) ∧ (⟨(SS y).cps.extract a.length (a.length + 1)⟩ : Str) = SS [48 + d] ∧
    Comes (2 ^ 66) (Sre.forSearch BC (SS y).cps 1 0 (i + 1).toNat false) (Found 1 a.length (a.length + 3) 1 [(a.length : Int), ((a.length + 1 : Nat) : Int)]) := by
  obtain ⟨n', b, c, rfl, rfl, rfl, rfl, h1, h2, h3, h4, h5⟩ := h
  have : ((a.length : Int) + 2 + 1).toNat = a.length + 3 := by omega
  rw [this]
  simp at hy
  exact ⟨rfl, h3, fun _ => count_int d h3, count_text, count_found h1 h2 h3 (by omega)⟩
theorem StepS.at {y : List Nat} {i : Int} {r : Option (List Nat)} (h : StepS y i r) (hy : y.length ≤ 100000) :
    r = none ∧ Comes (2 ^ 66) (Sre.forSearch BC (SS y).cps 1 0 (i + 1).toNat false) (fun m => m.outcome = some .failed) := by
  obtain ⟨a, t, rfl, rfl, h1, h2, h3⟩ := h
  have : ((a.length : Int) + 1 + 1).toNat = a.length + 2 := by omega
  rw [this]
  simp at hy
  exact ⟨h3, count_lost h1 h2 (by omega)⟩
theorem inner_step {y : List Nat} {p c : Int} {R : Int × Int} (h0 : 0 ≤ p) (h1 : p < y.length) (hf : fin (y.drop p.toNat) p c = R) (hc : c + (b2i (Txt.item (SS y) p == Str.ofString "(") - b2i (Txt.item (SS y) p == Str.ofString ")")) ≠ 0) :
    fin (y.drop (p + 1).toNat) (p + 1) (c + (b2i (Txt.item (SS y) p == Str.ofString "(") - b2i (Txt.item (SS y) p == Str.ofString ")"))) = R := by
  rw [SS_item h0 h1, b2i_open, b2i_close] at *
  rw [fin_at h0 h1] at hf
  rw [if_neg (by omega)] at hf
  rw [← hf]
  congr 1
  omega
theorem inner_hit {y : List Nat} {p c q k : Int} (h0 : 0 ≤ p) (h1 : p < y.length) (hf : fin (y.drop p.toNat) p c = (q, k)) (hc : c + (b2i (Txt.item (SS y) p == Str.ofString "(") - b2i (Txt.item (SS y) p == Str.ofString ")")) = 0) :
    p = q ∧ k = 0 := by
  rw [SS_item h0 h1, b2i_open, b2i_close] at *
  rw [fin_at h0 h1] at hf
  rw [if_pos (by omega)] at hf
  cases hf
  exact ⟨rfl, rfl⟩
theorem inner_end {y : List Nat} {p c q k : Int} (h0 : 0 ≤ p) (h1 : ¬p < y.length) (hf : fin (y.drop p.toNat) p c = (q, k)) : p = q ∧ c = k := by
  rw [List.drop_eq_nil_of_le (by omega)] at hf
  cases hf
  exact ⟨rfl, rfl⟩
theorem kept_part32 (h : hd.heap_39 = hd.heap_39 → PySem.Challenge.rw_fc0017_01 = PySem.Challenge.rw_fc0017_01) : True := by
  revert h
  k_fill
  w_top off
  k_with_none
  intro _; trivial
/-- the match that the count's pattern made -/
theorem bracket_mat {w : World} {g h : Heap} {L : Addr} {nw : Led} {x : Str} {tx : Tok} {k : Nat} {li : Int} {a₁ a₂ : Addr} {st he : Nat} {sp : List Int} (X : (hd.heap_39 w.params).In h) (N : News g L h nw) (m2 : (a₂, matObj x tx 70 0 k li a₁) ∈ nw) (m1 : (a₁, spanObj st he sp) ∈ nw) :
    ∃ names u, Mat prg w h a₂ x ((st : Int) :: (he : Int) :: sp) names ∧ names (Str.ofString "factor") = some (.int 1 u) := by
  have n2 := (N _ m2).1
  have n1 := (N _ m1).1
  exact ⟨_, _, ⟨⟨tx, 70, 0, k, li, a₁, 0, n2, n1, _, _, _, _, _, _, 67, X 70 _ (by k_is), mapOf_K X (by k_is) (by k_keys)⟩⟩, find_K (K := hd.heap_39 w.params) (a := 67) (by k_is) (by k_is)⟩
section
variable {w : World} {g : Heap} {L : Addr} {nw : Led} {x : Str} {tx : Tok} {k : Nat} {li : Int} {a₁ a₂ : Addr} {st he : Nat} {sp : List Int} {A : Around} {E : Value → Shared → Prop} {s : Shared}
theorem mat_truthy {Q : Bool → Shared → Prop} (X : (hd.heap_39 w.params).In s.heap) (N : News g L s.heap nw) (m2 : (a₂, matObj x tx 70 0 k li a₁) ∈ nw) (m1 : (a₁, spanObj st he sp) ∈ nw) (h : Q true s) : wpAny (model prg w) A (truthy (.ref a₂)) Q E s := by
  obtain ⟨_, _, hM, _⟩ := bracket_mat X N m2 m1
  exact truthy_match hM h
theorem mat_group {pl : Sem Bool} {Q : Value × List Value → Shared → Prop} (X : (hd.heap_39 w.params).In s.heap) (N : News g L s.heap nw) (m2 : (a₂, matObj x tx 70 0 k li a₁) ∈ nw) (m1 : (a₁, spanObj st he sp) ∈ nw) (h : Q (.builtin "re.Match.group", [.ref a₂]) s) :
    wpAny (model prg w) A (getMethod (.ref a₂) (Str.ofString "group") pl) Q E s := by
  obtain ⟨_, _, hM, _⟩ := bracket_mat X N m2 m1
  exact method_mat hM slot_group type_group h
theorem mat_start {pl : Sem Bool} {Q : Value × List Value → Shared → Prop} (X : (hd.heap_39 w.params).In s.heap) (N : News g L s.heap nw) (m2 : (a₂, matObj x tx 70 0 k li a₁) ∈ nw) (m1 : (a₁, spanObj st he sp) ∈ nw) (h : Q (.builtin "re.Match.start", [.ref a₂]) s) :
    wpAny (model prg w) A (getMethod (.ref a₂) (Str.ofString "start") pl) Q E s := by
  obtain ⟨_, _, hM, _⟩ := bracket_mat X N m2 m1
  exact method_mat hM slot_start type_start h
theorem mat_group_call {b e : Nat} {t : Tok} {z : Str} {Q : Value → Shared → Prop} (X : (hd.heap_39 w.params).In s.heap) (N : News g L s.heap nw) (m2 : (a₂, matObj x tx 70 0 k li a₁) ∈ nw) (m1 : (a₁, spanObj st he [(b : Int), (e : Int)]) ∈ nw) (hx : x.length ≤ 2 ^ 24) (hz : (⟨x.cps.extract b e⟩ : Str) = z)
    (h : ∀ tk tk', Q (.str z tk) { s with toks := tk' }) : wpAny (model prg w) A (call (.builtin "re.Match.group") [.ref a₂, .str (Str.ofString "factor") t]) Q E s := by
  obtain ⟨_, _, hM, hn⟩ := bracket_mat X N m2 m1
  subst hz
  exact group_call hM hn rfl rfl hx h
theorem mat_start_call {b e : Int} {t : Tok} {Q : Value → Shared → Prop} (X : (hd.heap_39 w.params).In s.heap) (N : News g L s.heap nw) (m2 : (a₂, matObj x tx 70 0 k li a₁) ∈ nw) (m1 : (a₁, spanObj st he [b, e]) ∈ nw)
    (h : ∀ tk tk', Q (.int b tk) { s with toks := tk' }) : wpAny (model prg w) A (call (.builtin "re.Match.start") [.ref a₂, .str (Str.ofString "factor") t]) Q E s := by
  obtain ⟨_, _, hM, hn⟩ := bracket_mat X N m2 m1
  exact start_call hM hn (by simp) rfl h
end
end Mine
end

section
open PySem PySem.W PySem.Spec PySem.Calls PyProof.Rows
set_option Elab.async false
set_option maxRecDepth 100000
set_option maxHeartbeats 8000000
set_option linter.unusedVariables false
namespace Mine
local macro_rules | `(tactic| walk_at "pad E3 0") => `(tactic| fail)
local macro_rules | `(tactic| walk_at "pad E3 1") => `(tactic| fail)
local macro_rules | `(tactic| walk_at "pad E3 2") => `(tactic| fail)
local macro_rules | `(tactic| walk_at "pad E3 3") => `(tactic| fail)
local macro_rules | `(tactic| walk_at "pad E3 4") => `(tactic| fail)
local macro_rules | `(tactic| walk_at "pad E3 5") => `(tactic| fail)
local macro_rules | `(tactic| walk_at "pad E3 6") => `(tactic| fail)
local macro_rules | `(tactic| walk_at "pad E3 7") => `(tactic| fail)
local macro_rules | `(tactic| walk_at "pad E3 8") => `(tactic| fail)
local macro_rules | `(tactic| walk_at "pad E3 9") => `(tactic| fail)
local macro_rules | `(tactic| walk_at "pad E3 10") => `(tactic| fail)
local macro_rules | `(tactic| walk_at "pad E3 11") => `(tactic| fail)
local macro_rules | `(tactic| walk_at "pad E3 12") => `(tactic| fail)
local macro_rules | `(tactic| walk_at "pad E3 13") => `(tactic| fail)
theorem kept_part31 (h : hd.heap_39 = hd.heap_39 → PySem.Challenge.rw_fc0017_01 = PySem.Challenge.rw_fc0017_01) : True := by
  revert h
  k_fill
  w_top off
  k_with_none
  intro _; trivial
local macro_rules | `(tactic| walk_at "my enter") => `(tactic| (refine' code_def ?k1 ?k2 ?k3 ?k4 ?k5 ?kA ?kF ?kK ?k6 ?k7 ?k8 ?k9 ?kB ?_ ?c2 ?c3 ?c4 ?c5; (case kA => exact rfl); (case kF => exact rfl); (case kK => assumption); (case k1 => k_asm); (case k2 => k_asm); (case k3 => k_asm); (case k4 => k_asm); (case k5 => k_asm); (case k6 => k_is); (case k7 => k_is); (case k8 => ktr_room); (case k9 => exact BindsTo.of_eq rfl); (case c5 => decide); (case kB => exact locs rfl); (case c2 => exact rfl); (case c3 => exact rfl); (case c4 => exact rfl); k_whole; intro g' L' h' FG' F' N' B' X' T'; (try dsimp only); (try k_lift B'); (try k_fold)))
local macro_rules | `(tactic| walk_at "my use") => `(tactic| ( (case k1 => k_asm); (case k2 => k_asm); (case k3 => k_asm); (case k4 => k_asm); (case k5 => k_asm); (case kK => first | exact rfl | assumption); (case kd => ktr_room); (case ku => ktr_units)))
local macro_rules | `(tactic| walk_at "call ref") => `(tactic| (k_here; k_extra "call ref"))
local macro_rules | `(tactic| walk_at "pyIter ref") => `(tactic| (k_here; k_extra "pyIter ref"))
local macro_rules | `(tactic| walk_at "exec For Name Call cons nil") => `(tactic| (k_here; k_extra "exec For Name Call cons nil"))
local macro_rules | `(tactic| walk_at "exec For Name Name cons nil") => `(tactic| (k_here; (rename Fr _ _ _ _ => lF9); (with_unfolding_all refine' For_invVF lF9 ?k1 ?k2 ?_; (case k1 => exact rfl); (case k2 => exact rfl); k_whole)))
local macro_rules | `(tactic| walk_at "my lt") => `(tactic| first | exact ne_of_allLt (by assumption) | exact ne_of_allLt (allLt_of (by assumption)) | exact ne_of_off1 (by assumption))
local macro_rules | `(tactic| walk_at "my grown") => `(tactic| first | assumption | exact Grown.refl _ | exact Grown.trans (by assumption) (by assumption) | (refine Grown.cons ?_ ?_; (walk_at "my grown"); (walk_at "my lt")) | (refine Grown.dup ?_ ?_; (walk_at "my grown"); (walk_at "my mem")))
local macro_rules | `(tactic| walk_at "my fresh") => `(tactic| first | exact fresh_head (by walk_at "my grown") (by walk_at "my lt") | (refine Fresh.tail ?_; walk_at "my fresh"))
local macro_rules | `(tactic| walk_at "my mem") => `(tactic| first | exact .head _ | assumption | (refine .tail _ ?_; walk_at "my mem") | (refine Grown.sub (by assumption) _ ?_; walk_at "my mem"))
local macro_rules | `(tactic| walk_at "my fit") => `(tactic| k_extra "my fit")
local macro_rules | `(tactic| walk_at "binaryOp Add") => `(tactic| (k_here; (with_reducible show wpAny _ _ (binaryOp Operator.Add (Value.ref _) (Value.ref _)) _ _ _); refine' add_two ?k1 ?k2 ?k3 ?k4 ?k5 ?_; (case k1 => k_asm); (case k2 => k_asm); (case k3 => walk_at "my mem"); (case k4 => walk_at "my mem"); (case k5 => walk_at "my fit"); k_whole; intro a9' h9' F9' N9' l9'))
local macro_rules | `(tactic| walk_at "eval ListComp") => `(tactic| (k_here; k_dflt (refine LCg.ListComp_U (F₀ := by k_asm) (by rfl) (by decide) (by rfl) (by decide) (by rfl) ?_)))
local macro_rules | `(tactic| walk_at "CompSrc") => `(tactic| (k_extra "CompSrc"))
local macro_rules | `(tactic| walk_at "call builtin:str.join") => `(tactic| (k_here; k_extra "call builtin:str.join"))
local macro_rules | `(tactic| walk_at "binaryOp Mult ref int") => `(tactic| (k_here; k_extra "binaryOp Mult ref int"))
local macro_rules | `(tactic| walk_at "call builtin:str.find") => `(tactic| (k_here; k_extra "call builtin:str.find"))
local macro_rules | `(tactic| walk_at "exec While Compare cons nil") => `(tactic| (k_here; k_extra "exec While Compare cons nil"))
local macro_rules | `(tactic| walk_at "leaving ref") => `(tactic| (k_here; k_extra "leaving ref"))
local macro_rules | `(tactic| walk_at "getMethod ref") => `(tactic| (k_here; k_extra "getMethod ref"))
local macro_rules | `(tactic| walk_at "call builtin:re.Pattern.search") => `(tactic| (k_here; k_extra "call builtin:re.Pattern.search"))
local macro_rules | `(tactic| walk_at "call builtin:re.Match.group") => `(tactic| (k_here; k_extra "call builtin:re.Match.group"))
local macro_rules | `(tactic| walk_at "call builtin:re.Match.start") => `(tactic| (k_here; k_extra "call builtin:re.Match.start"))
local macro_rules | `(tactic| walk_at "truthy ref") => `(tactic| (k_here; k_extra "truthy ref"))
local macro_rules | `(tactic| walk_at "binaryOp Mult int str") => `(tactic| (k_here; k_extra "binaryOp Mult int str"))
local macro_rules | `(tactic| walk_at "call builtin:int.__new__") => `(tactic| (k_here; k_extra "call builtin:int.__new__"))
local macro_rules | `(tactic| walk_at "call type:int") => `(tactic| (k_here; k_extra "call type:int"))

def ExX (B : Nat) (r : Option (List Nat)) (news : Led) (n : Nat) (m : Str → Option Value) (nx : Led) : Prop :=
  nx = news ∧ ∃ y t, m (Str.ofString "s") = some (.str (SS y) t) ∧ EndsN B n y r ∧ y.length ≤ B
def ExQ (g : Heap) (L : Addr) (s₀ : Shared) (news : Led) (r : Option (List Nat)) (s' : Shared) : Prop :=
  ∃ (z : List Nat) (h' : Heap) (tk' : Nat) (m' : Str → Option Value) (t : Tok), s' = { s₀ with heap := h', toks := tk' } ∧ r = some z ∧ Fr g L h' m' ∧ (∃ n', News g L h' n' ∧ Grown news n') ∧ m' (Str.ofString "s") = some (.str (SS z) t)
def InQ (g : Heap) (L : Addr) (s₀ : Shared) (news : Led) (R : Int × Int) (m₀ : Str → Option Value) (s' : Shared) : Prop :=
  ∃ (h' : Heap) (tk' : Nat) (m' : Str → Option Value) (tp tc : Tok), s' = { s₀ with heap := h', toks := tk' } ∧ Fr g L h' m' ∧ News g L h' news ∧ m' (Str.ofString "p") = some (.int R.1 tp) ∧ m' (Str.ofString "count") = some (.int R.2 tc) ∧ ∀ z, z ≠ Str.ofString "p" → z ≠ Str.ofString "count" → m' z = m₀ z
theorem int_eq {a b : Int} {t : Tok} (h : a = b) : some (Value.int a t) = some (.int b t) := by rw [h]
theorem str_eq {a b : Str} {t : Tok} (h : a = b) : some (Value.str a t) = some (.str b t) := by rw [h]
structure Gn (news nx : Led) : Prop where
  g : Grown news nx
def ExJX (B : Nat) (r : Option (List Nat)) (news : Led) (n : Nat) (m : Str → Option Value) (nx : Led) : Prop :=
  Grown news nx ∧ ∃ y t, m (Str.ofString "s") = some (.str (SS y) t) ∧ EndsN B n y r ∧ y.length ≤ B
theorem grown_two {g h h' : Heap} {L : Addr} {nx : Led} {a₁ a₂ : Addr} {o₁ o₂ : Obj} (N : News g L h nx) (N' : News g L h' ((a₂, o₂) :: (a₁, o₁) :: nx)) (l1 : h.objs.size ≤ a₁) (l2 : a₁ < a₂) : Grown nx ((a₂, o₂) :: (a₁, o₁) :: nx) := by
  have lt : ∀ p ∈ nx, p.1 < h.objs.size := fun p hp => Heap.lt_size (N p hp).1
  refine Grown.cons (Grown.cons (Grown.refl _) fun p hp => Nat.ne_of_lt (Nat.lt_of_lt_of_le (lt p hp) l1)) fun p hp => ?_
  rcases List.mem_cons.mp hp with rfl | hp
  · exact Nat.ne_of_lt l2
  · exact Nat.ne_of_lt (Nat.lt_of_lt_of_le (lt p hp) (Nat.le_trans l1 (Nat.le_of_lt l2)))
theorem expand_walk {w : World} {base : Heap} {news : Led} {y0 : List Nat} {t0 : Tok} {r : Option (List Nat)} (hE : Ends 100000 y0 r) (hl0 : y0.length ≤ 100000) :
    ConX w 77 [.str (SS y0) t0] 1 16 base news (fun _ v => ∃ z t, r = some z ∧ v = .str (SS z) t) (r = none) := by
  intro mean mg mb dp un gd cn cs a ccd cl outer A₀ h₀ L m s Q E B F X N T hk hd hu hret hexc
  obtain ⟨n0, hE⟩ := hE.count
  refine wpAny_call ?_
  k_dflt (walk_at "my enter")
  k_with_none
  iterate 2 walk1
  (rename Fr _ _ _ _ => F'); (rename News _ _ _ _ => N')
  refine' cut_next (ExQ _ _ s news r) ?loop ?rest
  case' rest =>
    rintro s' ⟨z, h7, tk7, m7, t7, rfl, hrz, F7, ⟨news7, N7, G7⟩, e7⟩
    rw [map_at e7] at F7
    (try dsimp only)
  case' loop =>
    refine' While_inv2 (ExJX 100000 r news) (n₀ := n0) ?kF ?kN ?kJ ?turn ?kE
    case kF => exact F'
    case kN => exact N'
    case kJ => exact ⟨Grown.refl _, y0, t0, rfl, hE, hl0⟩
    case kE => passes_own
    rintro n m₁ nx₁ h₁ tk₁ F₁ N₁ ⟨G₁, y, ty, e, hE, hl⟩
    rw [map_at e] at F₁
    have hl1 : (SS y).length ≤ 100000 := by rw [SS_len]; exact hl
    have hl2 : (SS y).length = y.length := SS_len y
  case rest =>
    k_steps
    all_goals first
    | (refine hret _ _ _ _ ?_ ?_ G7 ⟨z, _, hrz, rfl⟩ <;> first | assumption | k_asm)
  rcases hE.look2 with ⟨h40, hry⟩ | ⟨i, q, kk, hfind, hi0, hiy, hR, hq1, hq2, hT⟩
  case inl =>
    have hfind := find_none h40
    k_with "call builtin:str.find" => (refine find_call hfind ?_; intro t6 k6; (try dsimp only))
    k_steps
    all_goals first
    | omega
    | (refine' ⟨rfl, y, _, _, _, _, rfl, hry, ?a, ⟨_, ?b, G₁⟩, ?c⟩; (case a => assumption); (case b => assumption); (case c => with_unfolding_all exact rfl))
  case inr =>
    have hi1 : i + 1 ≤ (SS y).length := by omega
    k_with "call builtin:str.find" => (refine find_call hfind ?_; intro t6 k6; (try dsimp only))
    k_with "exec While Compare cons nil" => (
      (rename Fr _ _ _ _ => iF); (rename News _ _ _ _ => iN)
      refine' inner_cut iF (InQ _ _ s nx₁ (q, kk)) ?iloop ?irest
      case' irest =>
        rintro s' ⟨h8, tk8, m8, tp8, tc8, rfl, F8, N8, e8p, e8c, h8m⟩
        rw [map_form2 _ _ [] e8p e8c (fun z z1 z2 _ => h8m z z1 z2)] at F8
        (try dsimp only)
        (try dsimp only at F8)
        (try k_fold)
      case' iloop =>
        refine' while_m (InJ y (q, kk) nx₁) (n₀ := ?n0) ?wF ?wN ?ikJ ?iturn ?ikE
        case wF => exact iF
        case wN => exact iN
        case ikJ =>
          refine' InJ.start (i := i) ?j1 ?j2 ?j3 ?j4 ?j5
          case j1 => with_unfolding_all exact rfl
          case j2 => with_unfolding_all exact rfl
          case j3 => omega
          case j4 => omega
          case j5 => exact hR
        case ikE => passes_own
        rintro n m₁ nx₂ h₁ tk₁ F₁ N₁ ⟨hnx2, hm, p, cc, tp, tc, ep, ec, h0, h1, hfin, hn, hc0⟩
        rw [hnx2] at N₁
        rw [map_form2 _ _ [] ep ec (fun z z1 z2 _ => hm z z1 z2)] at F₁
        (try dsimp only)
        (try k_fold))
    k_with "leaving ref" => (
      refine' leave_newS ?k1 ?k0 ?k2 ?k3 ?_
      case k1 => assumption
      case k0 => first | assumption | exact Heap.MadeExc.newExc (by assumption)
      case k2 => assumption
      case k3 => k_asm
      intro h9 R9 RN9 U9
      (try dsimp only at R9 U9 ⊢))
    k_with "getMethod ref" => first
      | (refine method_pat (bracket_pat (by k_in)) slot_search type_search ?_; (try dsimp only))
      | (refine' mat_group ?mX ?mN ?m2 ?m1 ?_; (case mX => k_in); (case mN => k_asm); (case m2 => walk_at "my mem"); (case m1 => walk_at "my mem"); (try dsimp only))
      | (refine' mat_start ?mX ?mN ?m2 ?m1 ?_; (case mX => k_in); (case mN => k_asm); (case m2 => walk_at "my mem"); (case m1 => walk_at "my mem"); (try dsimp only))
    k_with "truthy ref" => (refine' mat_truthy ?mX ?mN ?m2 ?m1 ?_; (case mX => k_in); (case mN => k_asm); (case m2 => walk_at "my mem"); (case m1 => walk_at "my mem"); (try dsimp only))
    k_with "call builtin:re.Match.group" => (refine' mat_group_call ?mX ?mN ?m2 ?m1 ?mx ?mz ?_; (case mX => k_in); (case mN => k_asm); (case m2 => walk_at "my mem"); (case m1 => walk_at "my mem"); (case mx => omega); (case mz => exact hgt); intro t5 k5; (try dsimp only))
    k_with "call builtin:re.Match.start" => (refine' mat_start_call ?mX ?mN ?m2 ?m1 ?_; (case mX => k_in); (case mN => k_asm); (case m2 => walk_at "my mem"); (case m1 => walk_at "my mem"); intro t5 k5; (try dsimp only))
    k_with "call type:int" => (refine KIN.call_text hint (by rw [SS_len]; exact Nat.le_trans (by decide : ([0] : List Nat).length ≤ 1) (by decide)) ?_; (try dsimp only))
    k_with "call builtin:re.Pattern.search" => (
      refine search_call (bracket_pat (by k_in)) (by omega) (by omega) (by omega) ?_
      rcases Turn.starred hT (by omega) (by omega) (by omega) (by assumption) with ⟨a5, d5, hN5⟩ | hS5
      case' inl =>
        obtain ⟨hi5, hd5, hint, hgt, hcm⟩ := hN5.at hl
        have hint := hint Str.empty
        refine' answer_some ?sF ?sN (Nat.le_refl _) (by simp) hcm ?_
        case sF => k_asm
        case sN => k_asm
        intro a1 a2 h9 F9 N9 l1 l2
        have g9 : Grown news ((a2, matObj (SS y) ty 70 0 (i + 1).toNat 1 a1) :: (a1, spanObj a5.length (a5.length + 3) [(a5.length : Int), ((a5.length + 1 : Nat) : Int)]) :: nx₁) := G₁.trans (grown_two N8 N9 l1 l2)
        refine ⟨_, rfl, ?_⟩
      case' inr =>
        obtain ⟨hrn, hcm⟩ := hS5.at hl
        refine answer_none (Nat.le_refl _) hcm ?_
        refine ⟨_, rfl, ?_⟩
      all_goals ((try dsimp only); (try k_fold)))
    k_with "binaryOp Mult int str" => (
      obtain ⟨hok5, z5, hz5, hzl5, n5, y5, hlt5, hs5, hE5, hyl5⟩ := StepN.more hN5 (by omega) hl (j := a5.length) rfl
      refine mul_str_r hok5 ?_
      intro t5 k5
      rw [hz5]
      (try dsimp only))
    k_steps
    all_goals (try (exfalso; omega))
    all_goals first
    | (obtain ⟨rfl, rfl⟩ := inner_hit h0 (by omega) hfin (by assumption)
       refine' ⟨rfl, _, _, _, _, _, rfl, ?a, ?b, ?c, ?d, ?e⟩
       case a => assumption
       case b => assumption
       case c => with_unfolding_all exact rfl
       case d => with_unfolding_all exact int_eq (by assumption)
       case e => intro z z1 z2; simp [z1, z2])
    | (obtain ⟨rfl, rfl⟩ := inner_end h0 (by omega) hfin
       refine' ⟨_, _, _, tp, tc, rfl, ?a, ?b, ?c, ?d, ?e⟩
       case a => assumption
       case b => assumption
       case c => with_unfolding_all exact rfl
       case d => with_unfolding_all exact rfl
       case e => intro z z1 z2; simp [z1, z2])
    | (have hf := inner_step h0 (by omega) hfin (by assumption)
       unfold WhileStep2
       refine' ⟨_, _, _, _, y.length - (p + 1).toNat, rfl, ?a, ?b, ?lt, rfl, ?hm, p + 1, _, _, _, ?ep, ?ec, ?g1, ?g2, hf, rfl, ?g5⟩
       case a => assumption
       case b => assumption
       case ep => with_unfolding_all exact rfl
       case ec => with_unfolding_all exact rfl
       case lt => omega
       case g1 => omega
       case g2 => omega
       case g5 => assumption
       case hm => intro z z1 z2; simp [z1, z2])
    | (refine hexc _ _ _ _ _ ?_ (by assumption) R9 G₁ U9
       first
       | assumption
       | (rcases hT with ⟨_, hr⟩ | ⟨hk0, _⟩
          · exact hr
          · exact absurd hk0 (by assumption)))
    | (obtain ⟨n5, y5, hlt5, hs5, hE5, hyl5⟩ := Turn.plain hT (by omega) (by first | exact .inr (by assumption) | exact .inl (by omega))
       unfold WhileStep2
       refine' ⟨_, _, _, _, n5, rfl, ?a, ?b, hlt5, ?g, y5, _, ?e, hE5, hyl5⟩
       case a => assumption
       case b => assumption
       case g => walk_at "my grown"
       case e => with_unfolding_all exact str_eq hs5)
    | (obtain rfl : d5 = 0 := by omega
       obtain ⟨n5, y5, hlt5, hs5, hE5, hyl5⟩ := StepN.zero hN5 (j := a5.length) rfl
       unfold WhileStep2
       refine' ⟨_, _, _, _, n5, rfl, ?a, ?b, hlt5, ?g, y5, _, ?e, hE5, hyl5⟩
       case a => assumption
       case b => assumption
       case g => exact g9
       case e => with_unfolding_all exact str_eq hs5)
    | (unfold WhileStep2
       refine' ⟨_, _, _, _, n5, rfl, ?a, ?b, hlt5, ?g, y5, _, ?e, hE5, hyl5⟩
       case a => assumption
       case b => assumption
       case g => exact g9
       case e => with_unfolding_all exact str_eq hs5)

end Mine
end

section
open PySem PySem.W PySem.Spec PySem.Calls PyProof.Rows PySem.Builtin.Str
set_option Elab.async false
set_option maxRecDepth 100000
set_option maxHeartbeats 8000000
namespace Mine
theorem SS_toList (x : Str) : x = SS x.cps.toList := by
  obtain ⟨a⟩ := x
  show (⟨a⟩ : Str) = ⟨a.toList.toArray⟩
  simp
theorem SS_inj {a b : List Nat} (h : SS a = SS b) : a = b := by
  have := congrArg (fun x : Str => x.cps.toList) h
  simpa [SS] using this
theorem splitC_joinC : ∀ {ps : List (List Nat)}, ps ≠ [] → (∀ p ∈ ps, ∀ c ∈ p, c ≠ 44) → splitC (joinC ps) = ps
  | [], h, _ => absurd rfl h
  | [p], _, h => by
    simp only [joinC]
    exact splitC_plain (h p (by simp))
  | p :: q :: r, _, h => by
    rw [joinC_cons (by simp), splitC_append, splitC_plain (h p (by simp)), splitC_joinC (by simp) fun x hx => h x (List.mem_cons_of_mem _ hx)]
    rfl
theorem split_SS (z : List Nat) : Txt.split (SS z) (Str.ofString ",") = (splitC z).map SS := by
  have hj := StrLaws.join_split (SS z) (Str.ofString ",")
  have hf := StrLaws.split_free (SS z) 44
  have hp := split_pos (SS z) (Str.ofString ",")
  rw [show (⟨#[44]⟩ : Str) = Str.ofString "," from s_comma.symm] at hf
  generalize Txt.split (SS z) (Str.ofString ",") = l at hj hf hp
  have e : l = (l.map fun x => x.cps.toList).map SS := by
    rw [List.map_map]
    have : (SS ∘ fun x : Str => x.cps.toList) = id := by
      funext x; exact (SS_toList x).symm
    rw [this, List.map_id]
  have hne : (l.map fun x => x.cps.toList) ≠ [] := by
    intro q
    have := congrArg List.length q
    rw [List.length_map] at this
    simp at this
    subst this
    simp at hp
  have hno : ∀ p ∈ (l.map fun x => x.cps.toList), ∀ c ∈ p, c ≠ 44 := by
    intro p hp c hc q
    obtain ⟨x, hx, rfl⟩ := List.mem_map.mp hp
    exact hf x hx (q ▸ hc)
  have e2 : joinC (l.map fun x => x.cps.toList) = z := by
    apply SS_inj
    rw [← SS_join, ← e, ← hj, s_comma]
    exact eq_of_beq (join_plain_closes _ _)
  rw [e]
  congr 1
  rw [← e2, splitC_joinC hne hno]
def noBlank (x : List Nat) : List Nat := x.filter fun c => !Unicode.isSpace c
def cat (st : KWd.St) : List Nat := (st.1.map fun x => x.cps.toList).flatten ++ st.2.cps.toList
theorem cat_step (st : KWd.St) (c : Nat) : cat (KWd.step st c) = cat st ++ if Unicode.isSpace c = true then [] else [c] := by
  obtain ⟨ws, r⟩ := st
  unfold KWd.step cat
  by_cases h : Unicode.isSpace c = true
  · rw [if_pos h, if_pos h]
    by_cases h2 : r.length = 0
    · rw [if_pos h2, List.append_nil]
    · rw [if_neg h2]
      simp [Str.empty]
  · rw [if_neg h, if_neg h]
    simp [Str.cps_append]
theorem cat_fold : ∀ (x : List Nat) (st : KWd.St), cat (x.foldl KWd.step st) = cat st ++ noBlank x
  | [], st => by simp [noBlank]
  | c :: l, st => by
    rw [List.foldl_cons, cat_fold l, cat_step, List.append_assoc]
    congr 1
    unfold noBlank
    rw [List.filter_cons]
    by_cases h : Unicode.isSpace c = true
    · simp [h]
    · simp [h]
theorem join_none : ∀ (l : List Str), Str.join (Str.ofString "") l = SS (l.map fun x => x.cps.toList).flatten
  | [] => rfl
  | [x] => by
    show x = _
    simpa using SS_toList x
  | x :: y :: r => by
    show x ++ Str.ofString "" ++ Str.join (Str.ofString "") (y :: r) = _
    rw [join_none (y :: r), s_none]
    conv => lhs; rw [SS_toList x]
    show SS x.cps.toList ++ SS [] ++ _ = _
    rw [SS_append, SS_append]
    simp
theorem words_SS (x : List Nat) : Txt.join (Str.ofString "") (Txt.words (SS x)) = SS (noBlank x) := by
  rw [eq_of_beq (join_plain_closes _ _), join_none, KWd.words_scan]
  congr 1
  have h := cat_fold x ([], Str.empty)
  have e : KWd.scan (SS x) = x.foldl KWd.step ([], Str.empty) := by
    unfold KWd.scan
    congr 1
  rw [e]
  generalize x.foldl KWd.step ([], Str.empty) = st at h
  have : ((KWd.fin st).map fun x => x.cps.toList).flatten = cat st := by
    unfold KWd.fin cat
    by_cases h2 : st.2.length = 0
    · rw [if_pos h2]
      have : st.2.cps.toList = [] := by rw [KWd.len0 h2]; rfl
      rw [this, List.append_nil]
    · rw [if_neg h2]; simp
  rw [this, h]
  rfl
end Mine
end

section
open PySem PySem.W PySem.Spec PySem.Calls PyProof.Rows PySem.Builtin.Str
set_option Elab.async false
set_option maxRecDepth 100000
set_option maxHeartbeats 8000000
namespace Mine
def MC : Array Nat := #[14, 4, 0, 2, 4294967295, 6, 0, 17, 0, 24, 5, 0, 4294967295, 2, 1, 17, 1, 16, 42, 17, 2, 24, 5, 1, 4294967295, 2, 1, 17, 3, 1]
def SC : Array Nat := #[14, 4, 0, 2, 4294967295, 6, 0, 17, 0, 13, 7, 22, 60, 62, 16, 64, 0, 17, 1, 17, 2, 23, 25, 1, 4294967295, 24, 9, 0, 4294967295, 13, 4, 8, 10, 0, 1, 13, 11, 9, 0, 0, 135940, 136052, 0, 0, 0, 0, 0, 18, 17, 3, 6, 5, 1]
def MM (p : List Nat) := Sre.forMatch MC (SS p).cps 2 0 (SS p).cps.size false false
def SM (p : List Nat) := Sre.forMatch SC (SS p).cps 2 0 (SS p).cps.size false false
def okNone (m : Sre.M) : Bool := match m.outcome with | some .failed => true | _ => false
def okSome (m : Sre.M) (f n : Nat) : Bool := (match m.outcome with | some .matched => true | _ => false) && m.start == 0 && m.handed == n && m.lastindex == 2 && m.lastmark == 3 && m.marks == #[some 0, some f, some (f + 1), some n]
theorem okNone_ok {m : Sre.M} (h : okNone (iter 60 m) = true) : Comes (2 ^ 66) m (fun m => m.outcome = some .failed) := by
  refine ⟨60, by decide, ?_⟩
  unfold okNone at h
  split at h
  · assumption
  · cases h
theorem okSome_ok {m : Sre.M} {f n : Nat} (hn : f + 1 ≤ n) (h : okSome (iter 60 m) f n = true) : Comes (2 ^ 66) m (Found 2 0 n 2 [(0 : Nat), (f : Nat), ((f + 1 : Nat) : Int), (n : Nat)]) := by
  refine ⟨60, by decide, ?_⟩
  unfold okSome at h
  simp only [Bool.and_eq_true, beq_iff_eq] at h
  obtain ⟨⟨⟨⟨⟨h1, h2⟩, h3⟩, h4⟩, h5⟩, h6⟩ := h
  refine ⟨?_, h2, h3, h4, ?_, ?_⟩
  · split at h1
    · assumption
    · cases h1
  · unfold spansOf
    rw [h5, h6]
    rfl
  · unfold wrongOf
    rw [h5, h6]
    show ((decide (((2 * 0 + 1 : Nat) : Int) ≤ 3) && decide (f < 0)) || ((decide (((2 * 1 + 1 : Nat) : Int) ≤ 3) && decide (n < f + 1)) || false)) = false
    rw [decide_eq_false (by omega : ¬ n < f + 1), decide_eq_false (by omega : ¬ f < 0)]; simp
theorem word_no : ∀ w ∈ words, okNone (iter 60 (MM w)) = true ∧ okNone (iter 60 (SM w)) = true := by decide +kernel
theorem count_yes : ∀ c : Fin 4, ∀ w ∈ words, okSome (iter 60 (MM ((48 + c.val) :: 42 :: w))) 1 (w.length + 2) = true := by decide +kernel
theorem minus_yes : ∀ k : Fin 8, okSome (iter 60 (MM [45, 48 + k.val, 42, 117, 56])) 2 5 = true := by decide +kernel
theorem letter_yes : okSome (iter 60 (MM [120, 42, 117, 56])) 1 4 = true := by decide +kernel
theorem twice_yes : okSome (iter 60 (MM [50, 42, 51, 42, 117, 56])) 3 6 = true := by decide +kernel
/-- what the code finds at a piece -/
inductive Shape : List Nat → Option (List (List Nat)) → Prop
  | nil : Shape [] (some [])
  | word {w : List Nat} : w ≠ [] → Comes (2 ^ 66) (MM w) (fun m => m.outcome = some .failed) → Comes (2 ^ 66) (SM w) (fun m => m.outcome = some .failed) → w.length ≤ 100 → Shape w (some [w])
  | count {p : List Nat} {c f n : Nat} {w : List Nat} : p ≠ [] → c ≤ 3 → p.length ≤ 100 → Comes (2 ^ 66) (MM p) (Found 2 0 n 2 [(0 : Nat), (f : Nat), ((f + 1 : Nat) : Int), (n : Nat)]) → (⟨(SS p).cps.extract 0 f⟩ : Str) = SS [48 + c] → (⟨(SS p).cps.extract (f + 1) n⟩ : Str) = SS w →
      PySem.intText? (SS [48 + c]) = some (c : Int) → Comes (2 ^ 66) (SM w) (fun m => m.outcome = some .failed) → w.length ≤ 100 → Shape p (some (List.replicate c w))
  | minus {p : List Nat} {f n : Nat} {z : List Nat} {k : Int} : p ≠ [] → p.length ≤ 100 → Comes (2 ^ 66) (MM p) (Found 2 0 n 2 [(0 : Nat), (f : Nat), ((f + 1 : Nat) : Int), (n : Nat)]) → (⟨(SS p).cps.extract 0 f⟩ : Str) = SS z → z.length ≤ 100 →
      PySem.intText? (SS z) = some k → k < 0 → -10 < k → Shape p none
  | bad {p : List Nat} {f n : Nat} {z : List Nat} : p ≠ [] → p.length ≤ 100 → Comes (2 ^ 66) (MM p) (Found 2 0 n 2 [(0 : Nat), (f : Nat), ((f + 1 : Nat) : Int), (n : Nat)]) → (⟨(SS p).cps.extract 0 f⟩ : Str) = SS z → z.length ≤ 100 →
      PySem.intText? (SS z) = none → Shape p none
theorem word_len2 : ∀ w ∈ words, w ≠ [] ∧ w.length ≤ 8 ∧ Txt.strip (SS w) = SS w := by decide +kernel
theorem count_strip : ∀ c : Fin 4, ∀ w ∈ words, Txt.strip (SS ((48 + c.val) :: 42 :: w)) = SS ((48 + c.val) :: 42 :: w) := by decide +kernel
theorem minus_int : ∀ k : Fin 8, PySem.intText? (SS [45, 48 + k.val]) = some (-(k.val : Int)) := by decide +kernel
theorem minus_strip : ∀ k : Fin 8, Txt.strip (SS [45, 48 + k.val, 42, 117, 56]) = SS [45, 48 + k.val, 42, 117, 56] := by decide +kernel
theorem Piece.shape {p : List Nat} {r : Option (List (List Nat))} (h : Piece p r) : Shape p r ∧ Txt.strip (SS p) = SS p := by
  cases h with
  | nil => exact ⟨.nil, by decide +kernel⟩
  | word hw =>
    obtain ⟨h1, h2, h3⟩ := word_len2 _ hw
    exact ⟨.word h1 (okNone_ok (word_no _ hw).1) (okNone_ok (word_no _ hw).2) (by omega), h3⟩
  | @count c w hc hw =>
    obtain ⟨h1, h2, h3⟩ := word_len2 w hw
    have hy := count_yes ⟨c, by omega⟩ w hw
    refine ⟨.count (f := 1) (n := w.length + 2) (by simp) hc (by simp; omega) (okSome_ok (by omega) hy) ?_ ?_ (count_int c (by omega)) (okNone_ok (word_no w hw).2) (by omega), count_strip ⟨c, by omega⟩ w hw⟩
    · exact congrArg Str.mk (show ((48 + c) :: 42 :: w).toArray.extract 0 1 = [48 + c].toArray by simp)
    · exact congrArg Str.mk (show ((48 + c) :: 42 :: w).toArray.extract 2 (w.length + 2) = w.toArray by simp)
  | @minus k h1 h2 =>
    refine ⟨.minus (f := 2) (n := 5) (z := [45, 48 + k]) (k := -(k : Int)) (by simp) (by simp) (okSome_ok (by omega) (minus_yes ⟨k, by omega⟩)) ?_ (by simp) (minus_int ⟨k, by omega⟩) (by omega) (by omega), minus_strip ⟨k, by omega⟩⟩
    exact congrArg Str.mk (show [45, 48 + k, 42, 117, 56].toArray.extract 0 2 = [45, 48 + k].toArray by simp)
  | letter => exact ⟨.bad (f := 1) (n := 4) (z := [120]) (by simp) (by simp) (okSome_ok (by omega) letter_yes) (by decide +kernel) (by simp) (by decide +kernel), by decide +kernel⟩
  | twice => exact ⟨.bad (f := 3) (n := 6) (z := [50, 42, 51]) (by simp) (by simp) (okSome_ok (by omega) twice_yes) (by decide +kernel) (by simp) (by decide +kernel), by decide +kernel⟩
end Mine
end

section
open PySem PySem.W PySem.Spec PySem.Calls PyProof.Rows
set_option Elab.async false
set_option maxRecDepth 100000
set_option maxHeartbeats 8000000
namespace Mine
local macro_rules | `(tactic| walk_at "pad E4 0") => `(tactic| fail)
local macro_rules | `(tactic| walk_at "pad E4 1") => `(tactic| fail)
local macro_rules | `(tactic| walk_at "pad E4 2") => `(tactic| fail)
local macro_rules | `(tactic| walk_at "pad E4 3") => `(tactic| fail)
local macro_rules | `(tactic| walk_at "pad E4 4") => `(tactic| fail)
local macro_rules | `(tactic| walk_at "pad E4 5") => `(tactic| fail)
local macro_rules | `(tactic| walk_at "pad E4 6") => `(tactic| fail)
local macro_rules | `(tactic| walk_at "pad E4 7") => `(tactic| fail)
local macro_rules | `(tactic| walk_at "pad E4 8") => `(tactic| fail)
local macro_rules | `(tactic| walk_at "pad E4 9") => `(tactic| fail)
local macro_rules | `(tactic| walk_at "pad E4 10") => `(tactic| fail)
local macro_rules | `(tactic| walk_at "pad E4 11") => `(tactic| fail)
local macro_rules | `(tactic| walk_at "pad E4 12") => `(tactic| fail)
local macro_rules | `(tactic| walk_at "pad E4 13") => `(tactic| fail)
local macro_rules | `(tactic| walk_at "pad E4 14") => `(tactic| fail)
theorem kept_part34 (h : hd.heap_39 = hd.heap_39 → PySem.Challenge.rw_fc0017_01 = PySem.Challenge.rw_fc0017_01) : True := by
  revert h
  k_fill
  w_top off
  k_with_none
  intro _; trivial
theorem mult_pat {w : World} {h : Heap} (X : (hd.heap_39 w.params).In h) : Pat h 43 42 40 MC 2 := by
  exact ⟨⟨_, _, _, X 43 _ (by k_is)⟩, ⟨_, _, X 42 _ (by k_is), by decide +kernel⟩⟩
theorem struct_pat {w : World} {h : Heap} (X : (hd.heap_39 w.params).In h) : Pat h 48 47 45 SC 2 := by
  exact ⟨⟨_, _, _, X 48 _ (by k_is)⟩, ⟨_, _, X 47 _ (by k_is), by decide +kernel⟩⟩
theorem mult_mat {w : World} {g h : Heap} {L : Addr} {nw : Led} {x : Str} {tx : Tok} {k : Nat} {li : Int} {a₁ a₂ : Addr} {st he : Nat} {sp : List Int} (X : (hd.heap_39 w.params).In h) (N : News g L h nw) (m2 : (a₂, matObj x tx 43 0 k li a₁) ∈ nw) (m1 : (a₁, spanObj st he sp) ∈ nw) :
    ∃ names u u2, Mat prg w h a₂ x ((st : Int) :: (he : Int) :: sp) names ∧ names (Str.ofString "factor") = some (.int 1 u) ∧ names (Str.ofString "token") = some (.int 2 u2) := by
  have n2 := (N _ m2).1
  have n1 := (N _ m1).1
  exact ⟨_, _, _, ⟨⟨tx, 43, 0, k, li, a₁, 0, n2, n1, _, _, _, _, _, _, 40, X 43 _ (by k_is), mapOf_K X (by k_is) (by k_keys)⟩⟩, find_K (K := hd.heap_39 w.params) (a := 40) (by k_is) (by k_is), find_K (K := hd.heap_39 w.params) (a := 40) (by k_is) (by k_is)⟩
section
variable {w : World} {g : Heap} {L : Addr} {nw : Led} {x : Str} {tx : Tok} {k : Nat} {li : Int} {a₁ a₂ : Addr} {st he : Nat} {sp : List Int} {A : Around} {E : Value → Shared → Prop} {s : Shared}
theorem mmat_truthy {Q : Bool → Shared → Prop} (X : (hd.heap_39 w.params).In s.heap) (N : News g L s.heap nw) (m2 : (a₂, matObj x tx 43 0 k li a₁) ∈ nw) (m1 : (a₁, spanObj st he sp) ∈ nw) (h : Q true s) : wpAny (model prg w) A (truthy (.ref a₂)) Q E s := by
  obtain ⟨_, _, _, hM, _⟩ := mult_mat X N m2 m1
  exact truthy_match hM h
theorem mmat_group {pl : Sem Bool} {Q : Value × List Value → Shared → Prop} (X : (hd.heap_39 w.params).In s.heap) (N : News g L s.heap nw) (m2 : (a₂, matObj x tx 43 0 k li a₁) ∈ nw) (m1 : (a₁, spanObj st he sp) ∈ nw) (h : Q (.builtin "re.Match.group", [.ref a₂]) s) :
    wpAny (model prg w) A (getMethod (.ref a₂) (Str.ofString "group") pl) Q E s := by
  obtain ⟨_, _, _, hM, _⟩ := mult_mat X N m2 m1
  exact method_mat hM slot_group type_group h
theorem mmat_factor {b e c d : Nat} {t : Tok} {z : Str} {Q : Value → Shared → Prop} (X : (hd.heap_39 w.params).In s.heap) (N : News g L s.heap nw) (m2 : (a₂, matObj x tx 43 0 k li a₁) ∈ nw) (m1 : (a₁, spanObj st he [(b : Int), (e : Int), (c : Int), (d : Int)]) ∈ nw) (hx : x.length ≤ 2 ^ 24) (hz : (⟨x.cps.extract b e⟩ : Str) = z)
    (h : ∀ tk tk', Q (.str z tk) { s with toks := tk' }) : wpAny (model prg w) A (call (.builtin "re.Match.group") [.ref a₂, .str (Str.ofString "factor") t]) Q E s := by
  obtain ⟨_, _, _, hM, hn, _⟩ := mult_mat X N m2 m1
  subst hz
  exact group_call hM hn rfl rfl hx h
theorem mmat_token {b e c d : Nat} {t : Tok} {z : Str} {Q : Value → Shared → Prop} (X : (hd.heap_39 w.params).In s.heap) (N : News g L s.heap nw) (m2 : (a₂, matObj x tx 43 0 k li a₁) ∈ nw) (m1 : (a₁, spanObj st he [(b : Int), (e : Int), (c : Int), (d : Int)]) ∈ nw) (hx : x.length ≤ 2 ^ 24) (hz : (⟨x.cps.extract c d⟩ : Str) = z)
    (h : ∀ tk tk', Q (.str z tk) { s with toks := tk' }) : wpAny (model prg w) A (call (.builtin "re.Match.group") [.ref a₂, .str (Str.ofString "token") t]) Q E s := by
  obtain ⟨_, _, _, hM, _, hn⟩ := mult_mat X N m2 m1
  subst hz
  exact group_call hM hn rfl rfl hx h
end
end Mine
end

section
open PySem PySem.W PySem.Spec PySem.Calls PyProof.Rows
set_option Elab.async false
set_option maxRecDepth 100000
set_option maxHeartbeats 8000000
namespace Mine
theorem upd_at {D : Addr} {o o' : Obj} {post : Led} (hq : ∀ p ∈ post, p.1 ≠ D) : ∀ {pre : Led}, (∀ p ∈ pre, p.1 ≠ D) → Upd D o o' (pre ++ (D, o) :: post) (pre ++ (D, o') :: post)
  | [], _ => .head hq
  | p :: pre, hp => .tail (hp p (by simp)) (upd_at hq fun x hx => hp x (by simp [hx]))
theorem ext_list {prog : Program} {w : World} {A : Around} {E : Value → Shared → Prop} {s : Shared} {h₀ : Heap} {L D b : Addr} {m : Str → Option Value} {us us2 : List Value} {n : Nat} {pre post : Led} {Q : Value → Shared → Prop}
    (F : Fr h₀ L s.heap m) (N : News h₀ L s.heap (pre ++ (D, ({ cls := .type "list", data := .seq us.toArray n } : Obj)) :: post)) (hp : ∀ p ∈ pre, p.1 ≠ D) (hq : ∀ p ∈ post, p.1 ≠ D)
    (hb : (b, lstO us2) ∈ pre ++ (D, ({ cls := .type "list", data := .seq us.toArray n } : Obj)) :: post) (h1 : us.length ≤ 1000000) (h2 : us2.length ≤ 1000)
    (h : ∀ n' h', Fr h₀ L h' m → News h₀ L h' (pre ++ (D, ({ cls := .type "list", data := .seq (us ++ us2).toArray n' } : Obj)) :: post) → Q .none { s with heap := h' }) :
    wpAny (model prog w) A (call (.builtin "list.extend") [.ref D, .ref b]) Q E s := by
  have hd : ¬(!us.toArray.isEmpty && Builtin.List.listTooLong (us.toArray.size + us2.toArray.size)) = true := by
    simp [Builtin.List.listTooLong, sizeLine]; omega
  by_cases h0 : us2 = []
  · subst h0
    refine kxn_extend F N hb rfl (upd_at hq hp) hd (by simp [sizeLine]; omega) (by simp [sizeLine]; omega) fun h' F' N' => h n h' F' ?_
    rw [List.append_nil]; exact N'
  · exact kl_extend F N hb (by simp) (by simpa using h0) (upd_at hq hp) hd (by simp [sizeLine]; omega) (by simp [sizeLine]; omega) fun h' F' N' => h _ h' F' N'
end Mine
end

section
open PySem PySem.W PySem.Spec PySem.Calls PyProof.Rows
set_option Elab.async false
set_option maxRecDepth 100000
set_option maxHeartbeats 8000000
set_option linter.unusedVariables false
namespace Mine
local macro_rules | `(tactic| walk_at "pad P1 0") => `(tactic| fail)
local macro_rules | `(tactic| walk_at "pad P1 1") => `(tactic| fail)
local macro_rules | `(tactic| walk_at "pad P1 2") => `(tactic| fail)
local macro_rules | `(tactic| walk_at "pad P1 3") => `(tactic| fail)
local macro_rules | `(tactic| walk_at "pad P1 4") => `(tactic| fail)
local macro_rules | `(tactic| walk_at "pad P1 5") => `(tactic| fail)
local macro_rules | `(tactic| walk_at "pad P1 6") => `(tactic| fail)
local macro_rules | `(tactic| walk_at "pad P1 7") => `(tactic| fail)
local macro_rules | `(tactic| walk_at "pad P1 8") => `(tactic| fail)
local macro_rules | `(tactic| walk_at "pad P1 9") => `(tactic| fail)
local macro_rules | `(tactic| walk_at "pad P1 10") => `(tactic| fail)
local macro_rules | `(tactic| walk_at "pad P1 11") => `(tactic| fail)
local macro_rules | `(tactic| walk_at "pad P1 12") => `(tactic| fail)
local macro_rules | `(tactic| walk_at "pad P1 13") => `(tactic| fail)
local macro_rules | `(tactic| walk_at "pad P1 14") => `(tactic| fail)
local macro_rules | `(tactic| walk_at "pad P1 15") => `(tactic| fail)
theorem kept_part33 (h : hd.heap_39 = hd.heap_39 → PySem.Challenge.rw_fc0017_01 = PySem.Challenge.rw_fc0017_01) : True := by
  revert h
  k_fill
  w_top off
  k_with_none
  intro _; trivial
local macro_rules | `(tactic| walk_at "my enter") => `(tactic| (refine' code_def ?k1 ?k2 ?k3 ?k4 ?k5 ?kA ?kF ?kK ?k6 ?k7 ?k8 ?k9 ?kB ?_ ?c2 ?c3 ?c4 ?c5; (case kA => exact rfl); (case kF => exact rfl); (case kK => assumption); (case k1 => k_asm); (case k2 => k_asm); (case k3 => k_asm); (case k4 => k_asm); (case k5 => k_asm); (case k6 => k_is); (case k7 => k_is); (case k8 => ktr_room); (case k9 => exact BindsTo.of_eq rfl); (case c5 => decide); (case kB => exact locs rfl); (case c2 => exact rfl); (case c3 => exact rfl); (case c4 => exact rfl); k_whole; intro g' L' h' FG' F' N' B' X' T'; (try dsimp only); (try k_lift B'); (try k_fold)))
local macro_rules | `(tactic| walk_at "my use") => `(tactic| ( (case k1 => k_asm); (case k2 => k_asm); (case k3 => k_asm); (case k4 => k_asm); (case k5 => k_asm); (case kK => first | exact rfl | assumption); (case kd => ktr_room); (case ku => ktr_units)))
local macro_rules | `(tactic| walk_at "call ref") => `(tactic| (k_here; k_extra "call ref"))
local macro_rules | `(tactic| walk_at "pyIter ref") => `(tactic| (k_here; k_extra "pyIter ref"))
local macro_rules | `(tactic| walk_at "exec For Name Call cons nil") => `(tactic| (k_here; k_extra "exec For Name Call cons nil"))
local macro_rules | `(tactic| walk_at "exec For Name Name cons nil") => `(tactic| (k_here; (rename Fr _ _ _ _ => lF9); (with_unfolding_all refine' For_invVF lF9 ?k1 ?k2 ?_; (case k1 => exact rfl); (case k2 => exact rfl); k_whole)))
local macro_rules | `(tactic| walk_at "my lt") => `(tactic| first | exact ne_of_allLt (by assumption) | exact ne_of_allLt (allLt_of (by assumption)) | exact ne_of_off1 (by assumption))
local macro_rules | `(tactic| walk_at "my grown") => `(tactic| first | assumption | exact Grown.refl _ | exact Grown.trans (by assumption) (by assumption) | (refine Grown.cons ?_ ?_; (walk_at "my grown"); (walk_at "my lt")) | (refine Grown.dup ?_ ?_; (walk_at "my grown"); (walk_at "my mem")))
local macro_rules | `(tactic| walk_at "my fresh") => `(tactic| first | exact fresh_head (by walk_at "my grown") (by walk_at "my lt") | (refine Fresh.tail ?_; walk_at "my fresh"))
local macro_rules | `(tactic| walk_at "my mem") => `(tactic| first | exact .head _ | assumption | (refine .tail _ ?_; walk_at "my mem") | (refine Grown.sub (by assumption) _ ?_; walk_at "my mem"))
local macro_rules | `(tactic| walk_at "my fit") => `(tactic| k_extra "my fit")
local macro_rules | `(tactic| walk_at "binaryOp Add") => `(tactic| (k_here; (with_reducible show wpAny _ _ (binaryOp Operator.Add (Value.ref _) (Value.ref _)) _ _ _); refine' add_two ?k1 ?k2 ?k3 ?k4 ?k5 ?_; (case k1 => k_asm); (case k2 => k_asm); (case k3 => walk_at "my mem"); (case k4 => walk_at "my mem"); (case k5 => walk_at "my fit"); k_whole; intro a9' h9' F9' N9' l9'))
local macro_rules | `(tactic| walk_at "eval ListComp") => `(tactic| (k_here; k_dflt (refine LCg.ListComp_U (F₀ := by k_asm) (by rfl) (by decide) (by rfl) (by decide) (by rfl) ?_)))
local macro_rules | `(tactic| walk_at "CompSrc") => `(tactic| (k_extra "CompSrc"))
local macro_rules | `(tactic| walk_at "call builtin:str.join") => `(tactic| (k_here; k_extra "call builtin:str.join"))
local macro_rules | `(tactic| walk_at "binaryOp Mult ref int") => `(tactic| (k_here; k_extra "binaryOp Mult ref int"))
local macro_rules | `(tactic| walk_at "call builtin:str.find") => `(tactic| (k_here; k_extra "call builtin:str.find"))
local macro_rules | `(tactic| walk_at "exec While Compare cons nil") => `(tactic| (k_here; k_extra "exec While Compare cons nil"))
local macro_rules | `(tactic| walk_at "leaving ref") => `(tactic| (k_here; k_extra "leaving ref"))
local macro_rules | `(tactic| walk_at "getMethod ref") => `(tactic| (k_here; k_extra "getMethod ref"))
local macro_rules | `(tactic| walk_at "call builtin:re.Pattern.search") => `(tactic| (k_here; k_extra "call builtin:re.Pattern.search"))
local macro_rules | `(tactic| walk_at "call builtin:re.Match.group") => `(tactic| (k_here; k_extra "call builtin:re.Match.group"))
local macro_rules | `(tactic| walk_at "call builtin:re.Match.start") => `(tactic| (k_here; k_extra "call builtin:re.Match.start"))
local macro_rules | `(tactic| walk_at "truthy ref") => `(tactic| (k_here; k_extra "truthy ref"))
local macro_rules | `(tactic| walk_at "binaryOp Mult int str") => `(tactic| (k_here; k_extra "binaryOp Mult int str"))
local macro_rules | `(tactic| walk_at "call builtin:int.__new__") => `(tactic| (k_here; k_extra "call builtin:int.__new__"))
local macro_rules | `(tactic| walk_at "call type:int") => `(tactic| (k_here; k_extra "call type:int"))
local macro_rules | `(tactic| walk_at "exec Assign cons ListComp") => `(tactic| (k_here; k_extra "exec Assign cons ListComp"))
structure Halt (p : Prop) : Prop where
  go : p
theorem STOPHERE {p : Prop} (h : Halt p) : p := h.go
/-- what the code does with the pieces; refused only by a count below nought -/
inductive CollM : List (List Nat) → Option (List (List Nat)) → Prop
  | nil : CollM [] (some [])
  | more {p : List Nat} {t : List (List Nat)} {ps : List (List Nat)} {r : Option (List (List Nat))} : Piece p (some t) → CollM ps r → CollM (p :: ps) (r.map (t ++ ·))
  | bad {k : Nat} {ps : List (List Nat)} : 1 ≤ k → k ≤ 7 → CollM ([45, 48 + k, 42, 117, 56] :: ps) none

theorem splitC_length : ∀ z : List Nat, (splitC z).length ≤ z.length + 1
  | [] => by simp [splitC]
  | c :: l => by
    have := splitC_length l
    simp only [splitC]
    split
    · simp; omega
    · split
      · simp
      · rename_i h; rw [h] at this; simp at this ⊢; omega
theorem splitC_le : ∀ (z : List Nat), ∀ p ∈ splitC z, p.length ≤ z.length
  | [], p, h => by simp [splitC] at h; subst h; simp
  | c :: l, p, h => by
    simp only [splitC] at h
    split at h
    · rcases List.mem_cons.mp h with e | h
      · subst e; simp
      · have := splitC_le l p h; simp; omega
    · split at h
      · rename_i e; exact absurd e (splitC_ne l)
      · rename_i q ps e
        rcases List.mem_cons.mp h with e2 | h
        · subst e2
          have := splitC_le l q (by rw [e]; simp)
          simp; omega
        · have := splitC_le l p (by rw [e]; simp [h]); simp; omega
def listN (l : List Value) (n : Nat) : Obj := { cls := .type "list", data := .seq l.toArray n }
/-- a list of texts, changed since it was made -/
def TextsN (S : Addr × Obj → Prop) (ts : List (List Nat)) (r : Value) : Prop := ∃ l vs n, r = .ref l ∧ S (l, ({ cls := .type "list", data := .seq vs.toArray n } : Obj)) ∧ StrsAre vs (ts.map SS)
/-- between the turns of preprocess_tokens's loop -/
def PreJ (ps : List (List Nat)) (rr : Option (List (List Nat))) (newsA : Led) (m₀ : Str → Option Value) (i : Nat) (m : Str → Option Value) (nx : Led) : Prop :=
  (∀ z, z ≠ Str.ofString "final_tokens" → ([Str.ofString "meta_token", Str.ofString "factor", Str.ofString "m", Str.ofString "tokens"] : List Str).contains z = false → m z = m₀ z) ∧
  ∃ l us n nx' acc rest, nx = (l, ({ cls := .type "list", data := .seq us.toArray n } : Obj)) :: nx' ∧ (∀ p ∈ nx', p.1 ≠ l) ∧ Grown newsA nx' ∧ (∀ q ∈ newsA, q.1 ≠ l) ∧
    m (Str.ofString "final_tokens") = some (.ref l) ∧ StrsAre us (acc.map SS) ∧ acc.length ≤ 3 * i ∧ CollM (ps.drop i) rest ∧ rr = rest.map (acc ++ ·)
theorem PreJ.start {ps : List (List Nat)} {rr : Option (List (List Nat))} {newsA : Led} {m₀ : Str → Option Value} {l : Addr} (h1 : m₀ (Str.ofString "final_tokens") = some (.ref l)) (h2 : ∀ q ∈ newsA, q.1 ≠ l) (h3 : CollM ps rr) : PreJ ps rr newsA m₀ 0 m₀ ((l, lstO []) :: newsA) :=
  ⟨fun _ _ _ => rfl, l, [], 0, newsA, [], rr, rfl, h2, Grown.refl _, h2, h1, .nil, by simp, by simpa using h3, by cases rr <;> rfl⟩
theorem PreJ.next {ps : List (List Nat)} {rr rest rst : Option (List (List Nat))} {newsA nx' : Led} {m₀ m' : Str → Option Value} {i n' : Nat} {l2 : Addr} {us' : List Value} {acc t : List (List Nat)}
    (hoff : ∀ p ∈ nx', p.1 ≠ l2) (hgr : Grown newsA nx') (hnl : ∀ q ∈ newsA, q.1 ≠ l2)
    (hm' : ∀ z, z ≠ Str.ofString "final_tokens" → z ≠ Str.ofString "meta_token" → z ≠ Str.ofString "factor" → z ≠ Str.ofString "m" → z ≠ Str.ofString "tokens" → m' z = m₀ z)
    (e1 : m' (Str.ofString "final_tokens") = some (.ref l2)) (hst' : StrsAre us' ((acc ++ t).map SS)) (hal : acc.length ≤ 3 * i) (ht : t.length ≤ 3) (hcm2 : CollM (ps.drop (i + 1)) rst) (hrest : rest = rst.map (t ++ ·)) (hrr : rr = rest.map (acc ++ ·)) :
    PreJ ps rr newsA m₀ (i + 1) m' ((l2, ({ cls := .type "list", data := .seq us'.toArray n' } : Obj)) :: nx') := by
  refine ⟨fun z z1 z2 => ?_, l2, us', n', nx', acc ++ t, rst, rfl, hoff, hgr, hnl, e1, hst', by rw [List.length_append]; omega, hcm2, ?_⟩
  · simp only [List.contains_cons, List.contains_nil, Bool.or_eq_false_iff, beq_eq_false_iff_ne] at z2
    exact hm' z z1 z2.1 z2.2.1 z2.2.2.1 z2.2.2.2.1
  · rw [hrr, hrest]
    cases rst <;> simp
theorem pre_close {h₀ : Heap} {L : Addr} {J : (Str → Option Value) → List (Addr × Obj) → Prop} {own pre nx' : Led} {I l2 : Addr} {o o' : Obj} {s₁ : Shared} {h' : Heap} {tk : Nat} {m' : Str → Option Value}
    (F : Fr h₀ L h' m') (N : News h₀ L h' (pre ++ (l2, o') :: (nx' ++ own))) (hI : ∀ q ∈ (l2, o) :: nx', q.1 ≠ I) (hJ : J m' ((l2, o') :: nx')) : VEnd h₀ L J own I s₁ { s₁ with heap := h', toks := tk } :=
  ⟨h', tk, m', _, _, rfl, F, N, (by intro p hp; rcases List.mem_cons.mp hp with e | e <;> simp [e]), (by intro p hp; simp [hp]), (by
    intro q hq
    rcases List.mem_cons.mp hq with e | e
    · subst e; exact hI (l2, o) (.head _)
    · exact hI q (.tail _ e)), hJ⟩
theorem ltAll {d : Addr} {l : Led} (h : ∀ p ∈ l, p.1 < d) {q : Addr × Obj} (m : q ∈ l) : q.1 < d := h q m
theorem strs_rep1 {v : Str} {t : Tok} : ∀ c : Nat, StrsAre (List.replicate c [Value.str v t]).flatten (List.replicate c v)
  | 0 => .nil
  | c + 1 => by rw [List.replicate_succ, List.flatten_cons, List.replicate_succ]; exact .cons _ _ (strs_rep1 c)
theorem CollM.look {p : List Nat} {ps : List (List Nat)} {rest : Option (List (List Nat))} (h : CollM (p :: ps) rest) :
    (Txt.strip (SS p) = SS p ∧ ∃ t r, CollM ps r ∧ rest = r.map (t ++ ·) ∧ Shape p (some t)) ∨
    (Txt.strip (SS p) = SS p ∧ rest = none ∧ ∃ (f n : Nat) (z : List Nat) (k : Int), p ≠ [] ∧ p.length ≤ 100 ∧ Comes (2 ^ 66) (MM p) (Found 2 0 n 2 [(0 : Nat), (f : Nat), ((f + 1 : Nat) : Int), (n : Nat)]) ∧ (⟨(SS p).cps.extract 0 f⟩ : Str) = SS z ∧ z.length ≤ 100 ∧
      PySem.intText? (SS z) = some k ∧ k < 0 ∧ -10 < k) := by
  generalize hq : p :: ps = q at h
  cases h with
  | nil => cases hq
  | @more p' t ps' r hp hc =>
    injection hq with h1 h2
    subst h1 h2
    exact .inl ⟨hp.shape.2, t, r, hc, rfl, hp.shape.1⟩
  | @bad k ps' h1 h2 =>
    injection hq with h3 h4
    subst h3 h4
    refine .inr ⟨(Piece.minus h1 h2).shape.2, rfl, 2, 5, [45, 48 + k], -(k : Int), by simp, by simp, okSome_ok (by omega) (minus_yes ⟨k, by omega⟩), ?_, by simp, minus_int ⟨k, by omega⟩, by omega, by omega⟩
    show (⟨[45, 48 + k, 42, 117, 56].toArray.extract 0 2⟩ : Str) = ⟨[45, 48 + k].toArray⟩
    congr 1
theorem Shape.look {p : List Nat} {t : List (List Nat)} (h : Shape p (some t)) :
    (p = [] ∧ t = []) ∨ (p ≠ [] ∧ t = [p] ∧ Comes (2 ^ 66) (MM p) (fun m => m.outcome = some .failed) ∧ Comes (2 ^ 66) (SM p) (fun m => m.outcome = some .failed) ∧ p.length ≤ 100) ∨
    (∃ (f n c : Nat) (w : List Nat), p ≠ [] ∧ t = List.replicate c w ∧ c ≤ 3 ∧ p.length ≤ 100 ∧ Comes (2 ^ 66) (MM p) (Found 2 0 n 2 [(0 : Nat), (f : Nat), ((f + 1 : Nat) : Int), (n : Nat)]) ∧ (⟨(SS p).cps.extract 0 f⟩ : Str) = SS [48 + c] ∧ (⟨(SS p).cps.extract (f + 1) n⟩ : Str) = SS w ∧
      PySem.intText? (SS [48 + c]) = some (c : Int) ∧ Comes (2 ^ 66) (SM w) (fun m => m.outcome = some .failed) ∧ w.length ≤ 100) := by
  generalize ht : some t = o at h
  cases h with
  | nil => cases ht; exact .inl ⟨rfl, rfl⟩
  | word h1 h2 h3 h4 => cases ht; exact .inr (.inl ⟨h1, rfl, h2, h3, h4⟩)
  | count h1 h2 h3 h4 h5 h6 h7 h8 h9 => cases ht; exact .inr (.inr ⟨_, _, _, _, h1, rfl, h2, h3, h4, h5, h6, h7, h8, h9⟩)
  | minus => cases ht
  | bad => cases ht
theorem pre_try {w : World} {base : Heap} {news : Led} {x : List Nat} {t0 : Tok} {r : Option (List Nat)} {rr : Option (List (List Nat))} (hx : x.length ≤ 100000) (hE : Ends 100000 (noBlank x) r) (hC : ∀ z, r = some z → z.length ≤ 100000 ∧ CollM (splitC z) rr) :
    ConX w 65 [.str (SS x) t0] 4 64 base news (fun S v => ∃ t', rr = some t' ∧ TextsN S t' v) (r = none ∨ rr = none) := by
  intro mean mg mb dp un gd cn cs a ccd cl outer A₀ h₀ L m s Q E B F X N T hk hd hu hret hexc
  have hl1 : (SS x).length ≤ 100000 := by rw [SS_len]; exact hx
  have hl2 : (noBlank x).length ≤ 100000 := Nat.le_trans (List.length_filter_le _ _) hx
  refine wpAny_call ?_
  k_dflt (walk_at "my enter")
  k_with_none
  k_with "call ref" => (
    rw [words_SS]
    refine' conx_use (expand_walk hE hl2) ?k1 ?k2 ?k3 ?k4 ?k5 ?kK ?kd ?ku ?kret ?kexc
    walk_at "my use"
    case' kret =>
      intro r9 news9 h9 tk9 F9 N9 g9 p9
      obtain ⟨z9, t9, hz9, e9⟩ := p9
      subst e9
      obtain ⟨hzl9, hC9⟩ := hC z9 hz9
      have hA0 : Grown news news9 := Grown.trans (Grown.cons (Grown.refl _) (fun p hp => Nat.ne_of_lt (Heap.lt_size (‹News _ _ _ news› p hp).1))) g9
      have hzl8 : (SS z9).length ≤ 100000 := by rw [SS_len]; exact hzl9
      (try dsimp only)
      (try k_fold)
    case' kexc =>
      intro g8 h8 tk8 e8 news8 hr8 F8 R8 G8 U8
      (try dsimp only)
      (try k_fold))
  k_with "exec Assign cons ListComp" => (k_dflt (refine LCg.Assign_ListComp_U (F₀ := by k_asm) (by rfl) (by with_unfolding_all rfl) (by with_unfolding_all rfl) (by decide) (by rfl) (by decide) (by rfl) (by rfl) (by rfl) ?_))
  k_with "call builtin:str.split" => (
    (with_reducible show wpAny _ _ (call (Value.builtin "str.split") [Value.str _ _, Value.str _ _]) _ _ _)
    refine KSpl.split1 (by k_asm) (by k_asm) (by decide) ?_ (by rw [SS_len]; unfold sizeLine; omega)
    intro D7 l7 h7 k7 e7 a7 F7 N7 lt7
    rw [split_SS] at e7
    rw [e7] at a7
    have hps := splitC_length z9
    have hlen7 : (strValues l7).length = (splitC z9).length := by rw [strs_len a7, List.length_map]
    (try dsimp only)
    (try k_fold))
  k_with "CompSrc" => (
    refine LCg.CompSrc.ledger (by rfl) (by k_asm) (by k_asm) (.head _) (by simp only [List.size_toArray, hlen7]; unfold sizeLine; omega) ?_
    intro g7
    refine' comp_strs ((splitC z9).map fun p => Txt.strip (SS p)) (by simp [hlen7]) ?turn ?fin
    case' turn =>
      intro i v I oI C oC D m₂ ys h tk E' y hi hy hv hCl hx F N off ne
      have hi' : i < (splitC z9).length := by rw [List.size_toArray, hlen7] at hi; exact hi
      obtain ⟨t8, hv8⟩ := StrsAre.get a7 i (SS ((splitC z9)[i])) (by rw [List.getElem?_map, List.getElem?_eq_getElem hi']; rfl)
      have hvv : v = .str (SS ((splitC z9)[i])) t8 := by
        have hv' : (strValues l7)[i]? = some v := by simpa using hv
        rw [hv8] at hv'
        exact (Option.some.inj hv').symm
      have hyy : y = Txt.strip (SS ((splitC z9)[i])) := by
        rw [List.getElem?_map, List.getElem?_eq_getElem hi'] at hy
        exact (Option.some.inj hy).symm
      have hpl : (SS ((splitC z9)[i])).length ≤ 100000 := by
        rw [SS_len]; exact Nat.le_trans (splitC_le z9 _ (List.getElem_mem hi')) hzl9
      subst hvv
      subst hyy
      (try k_fold)
    case' fin =>
      intro ys hys
      (unfold LCg.FinA)
      intro D7 h7 tk7 F7 N7 o7
      have hysl : ys.length = (splitC z9).length := by rw [strs_len hys, List.length_map]
      have ltA := ne_of_off1 o7
      have hA := Grown.cons (o := LCg.lst ys) (Grown.cons hA0 (fun p hp => Nat.ne_of_lt (lt7 p hp))) ltA
      (try dsimp only))
  k_with "pyIter ref" => (
    (rename Fr _ _ _ _ => lF); (rename News _ _ _ _ => lN)
    with_unfolding_all refine' val_loop (vs := ys) (PreJ (splitC z9) rr _) (by rfl) ?pm lF lN ?pj ?pturn ?pdone
    case pm => walk_at "my mem"
    case pj =>
      refine' PreJ.start ?ph1 ?ph2 ?ph3
      case ph1 => with_unfolding_all exact rfl
      case ph2 => walk_at "my lt"
      case ph3 => exact hC9
    case' pturn =>
      intro i v m₁ nx h2 tk2 own I hv hI hi hex hJ lF lN
      obtain ⟨hm1, l2, us, n2, nx', acc, rest, rfl, hoff, hgr, hnl, e1, hst, hal, hcm, hrr⟩ := hJ
      rw [map_form1 _ _ e1 hm1] at lF
      have hi7 : i < (splitC z9).length := by
        have := (List.getElem?_eq_some_iff.mp hv).1
        omega
      obtain ⟨t8, hv8⟩ := StrsAre.get hys i (Txt.strip (SS ((splitC z9)[i]))) (by rw [List.getElem?_map, List.getElem?_eq_getElem hi7]; rfl)
      rw [hv] at hv8
      have hvv := Option.some.inj hv8
      rw [List.drop_eq_getElem_cons hi7] at hcm
      obtain ⟨p, hpe⟩ : ∃ p, p = (splitC z9)[i] := ⟨_, rfl⟩
      rw [← hpe] at hcm hvv
      subst hvv
      have hcs := hcm.look
      have hpl7 : (SS p).length ≤ 100000 := by
        rw [SS_len, hpe]; exact Nat.le_trans (splitC_le z9 _ (List.getElem_mem hi7)) hzl9
      have husl : us.length = acc.length := by rw [strs_len hst, List.length_map]
      have hoffo : ∀ p ∈ nx' ++ own, p.1 ≠ l2 := by
        intro p hp
        rcases List.mem_append.mp hp with h | h
        · exact hoff p h
        · rcases hi p h with e | e
          · rw [e]; exact (hI _ (.head _)).symm
          · rw [e]; exact hnl (D7, _) (.head _)
      (try dsimp only)
      rcases hcs with ⟨hp, hsh⟩ | ⟨hp, hsh⟩
      case' inr =>
        rw [hp] at lF
        obtain ⟨hrest, f5, n5, z5, k5, hs1, hs2, hs3, hs4, hs5, hs6, hs7, hs8⟩ := hsh
      case' inl =>
        rw [hp] at lF
        obtain ⟨tt, rst, hcm2, hrest, hsh⟩ := hsh
        rcases hsh.look with ⟨hs1, hs2⟩ | ⟨hs1, hs2, hs3, hs4, hs5⟩ | ⟨f5, n5, c5, w5, hs1, hs2, hs3, hs4, hs5, hs6, hs7, hs8, hs9, hs10⟩
      all_goals (try k_fold)
    case' pdone =>
      intro m₁ nx h2 tk2 hJ lF lN
      obtain ⟨hm1, l2, us, n2, nx', acc, rest, rfl, hoff, hgr, hnl, e1, hst, hal, hcm, hrr⟩ := hJ
      rw [map_form1 _ _ e1 hm1] at lF
      (try dsimp only)
      (try k_fold))
  k_with "getMethod ref" => first
    | (refine method_pat (mult_pat (by k_in)) slot_match type_match ?_; (try dsimp only))
    | (refine method_pat (struct_pat (by k_in)) slot_match type_match ?_; (try dsimp only))
    | (refine' mmat_group ?mX ?mN ?m2 ?m1 ?_; (case mX => k_in); (case mN => k_asm); (case m2 => walk_at "my mem"); (case m1 => walk_at "my mem"); (try dsimp only))
  k_with "truthy ref" => (refine' mmat_truthy ?mX ?mN ?m2 ?m1 ?_; (case mX => k_in); (case mN => k_asm); (case m2 => walk_at "my mem"); (case m1 => walk_at "my mem"); (try dsimp only))
  k_with "call builtin:re.Match.group" => first
    | (refine' mmat_factor ?mX ?mN ?m2 ?m1 ?mx ?mz ?_; (case mX => k_in); (case mN => k_asm); (case m2 => walk_at "my mem"); (case m1 => walk_at "my mem"); (case mx => rw [SS_len]; omega); (case mz => first | exact hs6 | exact hs4); intro t5 k6; (try dsimp only))
    | (refine' mmat_token ?mX ?mN ?m2 ?m1 ?mx ?mz ?_; (case mX => k_in); (case mN => k_asm); (case m2 => walk_at "my mem"); (case m1 => walk_at "my mem"); (case mx => rw [SS_len]; omega); (case mz => exact hs7); intro t5 k6; (try dsimp only))
  k_with "call type:int" => (refine KIN.call_text (by first | exact hs8 | exact hs6) (by rw [SS_len]; first | omega | exact Nat.le_trans (by decide : ([0] : List Nat).length ≤ 1) (by decide)) ?_; (try dsimp only))
  k_with "call builtin:re.Pattern.match" => first
    | (exfalso; subst hs1; (have q9 : (SS [] == Str.ofString "") = true := by decide +kernel); simp_all; done)
    | (refine match_call (mult_pat (by k_in)) (by rw [SS_len]; omega) ?_
       first
       | (refine answer_none (Nat.le_refl _) hs3 ?_; refine ⟨_, rfl, ?_⟩)
       | ((rename News _ _ _ _ => cN)
          (first | refine' answer_some ?sF ?sN (Nat.le_refl _) ?sg hs5 ?_ | refine' answer_some ?sF ?sN (Nat.le_refl _) ?sg hs3 ?_)
          case sF => k_asm
          case sN => k_asm
          case sg => simp
          intro a1 a2 h9 F9 N9 q1 q2
          have lt91 : l2 < a1 := Nat.lt_of_lt_of_le (Heap.lt_size (cN _ (.head _)).1) q1
          refine ⟨_, rfl, ?_⟩)
       ((try dsimp only); (try k_fold)))
    | (refine match_call (struct_pat (by k_in)) (by rw [SS_len]; omega) ?_; refine answer_none (Nat.le_refl _) (by first | exact hs9 | exact hs4) ?_; refine ⟨_, rfl, ?_⟩; ((try dsimp only); (try k_fold)))
  k_with "binaryOp Mult ref int" => first
    | (refine' mul_two ?ka ?kb ?kc ?kd ?ke ?_
       case ka => k_asm
       case kb => k_asm
       case kc => walk_at "my mem"
       case kd => omega
       case ke => simp
       intro a6 h6 F6 N6 lt6
       (try dsimp only))
    | ((show wpAny _ _ (binaryOp .Mult (.ref _) (.int ((1 : Nat) : Int) _)) _ _ _)
       refine' mul_two ?ka ?kb ?kc ?kd ?ke ?_
       case ka => k_asm
       case kb => k_asm
       case kc => walk_at "my mem"
       case kd => omega
       case ke => simp
       intro a6 h6 F6 N6 lt6
       (try dsimp only))
  k_with "call builtin:list.extend" => (
    (rename Fr _ _ _ _ => xF); (rename News _ _ _ _ => xN)
    first
    | (refine' ext_list (pre := [_, _]) (post := nx' ++ own) xF xN ?xp ?xq ?xb ?x1 ?x2 ?_
       case' xp =>
         intro p hp
         simp only [List.mem_cons, List.not_mem_nil, or_false] at hp
         rcases hp with rfl | rfl)
    | (refine' ext_list (pre := [_, _, _, _]) (post := nx' ++ own) xF xN ?xp ?xq ?xb ?x1 ?x2 ?_
       case' xp =>
         intro p hp
         simp only [List.mem_cons, List.not_mem_nil, or_false] at hp
         rcases hp with rfl | rfl | rfl | rfl)
    case xq => exact hoffo
    case xb => walk_at "my mem"
    case x1 => omega
    case x2 => simp; try omega
    all_goals first | exact Nat.ne_of_gt (ltAll (q := (l2, ({ cls := .type "list", data := .seq us.toArray n2 } : Obj))) (by assumption) (by walk_at "my mem")) | exact Nat.ne_of_gt (ktn_ltOf (by assumption) (l2, ({ cls := .type "list", data := .seq us.toArray n2 } : Obj)) (by walk_at "my mem")) | exact Nat.ne_of_gt lt91 | exact Nat.ne_of_gt (Nat.lt_trans lt91 q2) | exact Nat.ne_of_gt (Nat.lt_trans lt91 (‹a2 < _ ∧ a1 < _ ∧ _›).2.1) | skip
    intro n9 h9 F9 N9
    (try dsimp only))
  k_with "leaving ref" => first
    | (refine' leave_onSN ?k1 ?k2 ?k3 ?k4 ?_
       case k1 => assumption
       case k2 => exact F8
       case k3 => exact R8
       case k4 => exact U8
       intro h9 R9 RN9 U9
       (try dsimp only at R9 U9 ⊢))
    | (apply STOPHERE)
  k_steps
  · refine Halt.mk ?_
    refine' leave_onSN ?v1 ?v2 ?v3 ?v4 ?_
    case v1 => assumption
    case v2 => exact F8
    case v3 => exact R8
    case v4 => exact U8
    intro h9 R9 RN9 U9
    (try dsimp only at R9 U9 ⊢)
    refine hexc _ _ _ _ _ (.inl hr8) (by assumption) R9 ?_ U9
    refine Grown.trans (Grown.cons (Grown.refl _) ?_) G8
    intro p hp
    exact Nat.ne_of_lt (Heap.lt_size (‹News _ _ _ news› p hp).1)
  · have hre : rest = some [] := by
      rw [List.drop_eq_nil_of_le (by omega)] at hcm
      generalize hnil : ([] : List (List Nat)) = q at hcm
      cases hcm with
      | nil => rfl
      | more => cases hnil
      | bad => cases hnil
    refine' hret _ ((l2, _) :: nx') _ _ ?qa ?qb ?qc ⟨acc, ?qd, l2, us, n2, rfl, ⟨.head _, ?qe⟩, hst⟩
    case qa => first | assumption | k_asm
    case qb => first | assumption | k_asm
    case qc => exact Grown.cons (Grown.trans hA hgr) hoff
    case qd => rw [hrr, hre]; simp
    case qe => exact fun q hq => hnl q (hA.sub _ hq)
  · refine pre_close (pre := []) (o := ({ cls := .type "list", data := .seq us.toArray n2 } : Obj)) (by assumption) (by assumption) hI (PreJ.next hoff hgr hnl ?_ ?_ ?_ hal ?_ hcm2 hrest hrr)
    · intro z z1 z2 z3 z4 z5; simp [z1, z2, z3, z4, z5]
    · with_unfolding_all exact rfl
    · rw [hs2, List.append_nil]; exact hst
    · rw [hs2]; decide
  · exfalso; exact hs1 (SS_inj ((eq_of_beq (by assumption)).trans s_none))
  · refine pre_close (pre := [_, _]) (o := ({ cls := .type "list", data := .seq us.toArray n2 } : Obj)) (by assumption) N9 hI (PreJ.next hoff hgr hnl ?_ ?_ ?_ hal ?_ hcm2 hrest hrr)
    · intro z z1 z2 z3 z4 z5; simp [z1, z2, z3, z4, z5]
    · with_unfolding_all exact rfl
    · rw [hs2, List.map_append]; exact strs_append hst (strs_rep1 1)
    · rw [hs2]; simp
  · exfalso; exact hs1 (SS_inj ((eq_of_beq (by assumption)).trans s_none))
  · (rename Fr _ _ _ _ => xF); (rename News _ _ _ _ => xN)
    refine' ext_list (pre := [_, _, _, _]) (post := nx' ++ own) xF xN ?yp ?yq ?yb ?y1 ?y2 ?_
    case' yp =>
      intro p hp
      simp only [List.mem_cons, List.not_mem_nil, or_false] at hp
      rcases hp with rfl | rfl | rfl | rfl
    case yq => exact hoffo
    case yb => walk_at "my mem"
    case y1 => omega
    case y2 => simp; try omega
    all_goals first | exact Nat.ne_of_gt (ltAll (q := (l2, ({ cls := .type "list", data := .seq us.toArray n2 } : Obj))) (by assumption) (by walk_at "my mem")) | exact Nat.ne_of_gt (ktn_ltOf (by assumption) (l2, ({ cls := .type "list", data := .seq us.toArray n2 } : Obj)) (by walk_at "my mem")) | exact Nat.ne_of_gt lt91 | exact Nat.ne_of_gt (Nat.lt_trans lt91 q2) | exact Nat.ne_of_gt (Nat.lt_trans lt91 (‹a2 < _ ∧ a1 < _ ∧ _›).2.1) | skip
    intro n9 h9 F9 N9
    (try dsimp only)
    k_steps
    refine pre_close (pre := [_, _, _, _]) (o := ({ cls := .type "list", data := .seq us.toArray n2 } : Obj)) (by assumption) N9 hI (PreJ.next hoff hgr hnl ?_ ?_ ?_ hal ?_ hcm2 hrest hrr)
    · intro z z1 z2 z3 z4 z5; simp [z1, z2, z3, z4, z5]
    · with_unfolding_all exact rfl
    · rw [hs2, List.map_append, List.map_replicate]; exact strs_append hst (strs_rep1 c5)
    · rw [hs2]; simp; omega
  · exfalso; exact hs1 (SS_inj ((eq_of_beq (by assumption)).trans s_none))
  · refine Halt.mk ?_
    (rename News _ _ _ _ => xN)
    refine' leave_newS ?k1 ?k0 ?k2 ?k3 ?_
    case k1 => assumption
    case k0 => first | assumption | exact Heap.MadeExc.newExc (by assumption)
    case k2 => assumption
    case k3 => exact (fun p hp => xN p (by have := hgr.sub _ (hA.sub _ hp); simp [this]) : News _ _ _ news)
    intro h9 R9 RN9 U9
    (try dsimp only at R9 U9 ⊢)
    refine hexc _ _ _ _ _ (.inr ?_) (by assumption) R9 (Grown.refl _) U9
    rw [hrr, hrest]; rfl
  · refine' comp_end ?ca ?cb ?cc ?cd ?ce
    case ca => k_asm
    case cb => k_asm
    case cc => exact Grown.refl _
    case cd => assumption
    case ce => exact .inr ⟨_, .head _, rfl, _, rfl⟩

end Mine
end

section
open PySem PySem.W PySem.Spec PySem.Calls PySem.NumText PyProof.Rows
set_option Elab.async false
set_option maxRecDepth 100000
set_option maxHeartbeats 8000000
namespace Mine
theorem wpC_execs1 {M : Model} {A : Around} {E : Value → Shared → Prop} {s : Shared} {env : Env} {a : Stmt} {l : List Stmt} {Q : Flow → Shared → Prop}
    (h : wpAny M A (execs [a] env) (fun f s' => match f with | .next => wpC M A (execs l env) Q E s' | f => Q f s') E s) : wpC M A (execs (a :: l) env) Q E s := wpC_execs_app (l₁ := [a]) h
theorem wpC_execs2 {M : Model} {A : Around} {E : Value → Shared → Prop} {s : Shared} {env : Env} {a b : Stmt} {l : List Stmt} {Q : Flow → Shared → Prop}
    (h : wpAny M A (execs [a, b] env) (fun f s' => match f with | .next => wpC M A (execs l env) Q E s' | f => Q f s') E s) : wpC M A (execs (a :: b :: l) env) Q E s := wpC_execs_app (l₁ := [a, b]) h
theorem wpC_execs3 {M : Model} {A : Around} {E : Value → Shared → Prop} {s : Shared} {env : Env} {a b c : Stmt} {l : List Stmt} {Q : Flow → Shared → Prop}
    (h : wpAny M A (execs [a, b, c] env) (fun f s' => match f with | .next => wpC M A (execs l env) Q E s' | f => Q f s') E s) : wpC M A (execs (a :: b :: c :: l) env) Q E s := wpC_execs_app (l₁ := [a, b, c]) h
theorem wpC_Call_type1 {M : Model} {A : Around} {E : Value → Shared → Prop} {s : Shared} {env : Env} {id : Str} {p pos : Pos} {T : String} {e : Expr} {rest : List Expr} {Q : Value → Shared → Prop}
    (h : wpAny M A (eval (.Name id p) env) (fun f s₁ => f = .type T ∧ wpAny M A (spliced (backTo pos (starEach (e :: rest) env))) (fun vs s₂ => wpC M A (call (.type T) vs) Q E s₂) E s₁) E s)
    (he : starEach (e :: rest) env = (false, eval e env) :: starEach rest env := by rfl)
    (hplain : (backTo pos (starEach rest env)).any (·.1) = false := by rfl) : wpC M A (eval (.Call (.Name id p) (e :: rest) [] pos) env) Q E s := by
  refine wpC_Call_type (T := T) (by rw [he]; show (false || (backTo pos (starEach rest env)).any (·.1)) = false; rw [hplain]; rfl) (wpAny_mono h (fun f s₁ h₁ => ⟨h₁.1, ?_⟩) fun _ _ x => x)
  have h₂ := h₁.2
  rw [he] at h₂ ⊢
  exact evalArgs_plain h₂
theorem wpC_Call_fn1 {M : Model} {A : Around} {E : Value → Shared → Prop} {s : Shared} {env : Env} {id : Str} {p pos : Pos} {e : Expr} {rest : List Expr} {Q : Value → Shared → Prop}
    (h : wpAny M A (eval (.Name id p) env) (fun f s₁ => ∃ a o fd, f = .ref a ∧ o.data = .func fd ∧ wpAny M A (spliced (backTo pos (starEach (e :: rest) env))) (fun vs s₂ => s₂.heap.get? a = some o ∧ wpC M A (call (.ref a) vs) Q E s₂) E s₁) E s)
    (he : starEach (e :: rest) env = (false, eval e env) :: starEach rest env := by rfl) : wpC M A (eval (.Call (.Name id p) (e :: rest) [] pos) env) Q E s := by
  refine wpC_Call_Name (wpAny_mono h (fun f s₁ h₁ => ?_) fun _ _ x => x)
  obtain ⟨a, o, fd, e1, e2, h₂⟩ := h₁
  refine ⟨a, o, fd, e1, ?_⟩
  rw [he] at h₂ ⊢
  exact evalArgs_plain (wpAny_mono h₂ (fun _ _ h₃ => ⟨⟨h₃.1, e2⟩, h₃.2⟩) fun _ _ x => x)
theorem val_loopC {prog : Program} {w : World} {A : Around} {E : Value → Shared → Prop} {s : Shared} {env : Env} {h₀ : Heap} {x : Str} {body : List Stmt} {Q : Flow → Shared → Prop} {l : Addr} {vs : List Value} {kk : Nat} {m₀ : Str → Option Value} {news : Led}
    (J : (Str → Option Value) → Nat → (Str → Option Value) → List (Addr × Obj) → Prop)
    (hh : A.handled = none) (hm : (l, ({ cls := .type "list", data := .seq vs.toArray kk } : Obj)) ∈ news) (F : Fr h₀ env.locals s.heap m₀) (N : News h₀ env.locals s.heap news) (hj : J m₀ 0 m₀ news)
    (turn : ∀ i v m₁ nx h tk own I, vs[i]? = some v → (∀ q ∈ nx, q.1 ≠ I) → (∀ p ∈ own, p.1 = I ∨ p.1 = l) → (∃ p ∈ own, p.1 = I) → J m₀ i m₁ nx → Fr h₀ env.locals h (fun y => if y = x then some v else m₁ y) → News h₀ env.locals h (nx ++ own) →
      wpC (model prog w) A (execs body env) (VPost h₀ env.locals (J m₀ (i + 1)) own I { s with heap := h, toks := tk } Q) E { s with heap := h, toks := tk })
    (done : ∀ m₁ nx h tk, J m₀ vs.length m₁ nx → Fr h₀ env.locals h m₁ → News h₀ env.locals h nx → Q .next { s with heap := h, toks := tk }) :
    wpAny (model prog w) A (pyIter (.ref l)) (fun it s₂ => LoopC prog w A h₀ env x body Q E it s₂) E s := by
  have hls : s.heap.IsList l vs.toArray := ⟨_, (N _ hm).1, rfl, _, rfl⟩
  have hlt : l < s.heap.objs.size := Heap.lt_size (N _ hm).1
  refine wpAny_pyIter_list hls ?_
  have W := Walks.list (prog := prog) (w := w) hh s.heap.objs.size l (Nat.ne_of_lt hlt) vs.toArray
  rw [List.size_toArray] at W
  refine ⟨_, _, _, vs.length, _, _, m₀, news, J m₀, rfl, W, ?_, ?_, ?_, ⟨⟨_, Heap.get?_push_size _ rfl, rfl, rfl⟩, hls.at fun o e => Heap.get?_push_of_some _ e⟩, F.push _, (fun p hp => ⟨Heap.get?_push_of_some _ (N p hp).1, (N p hp).2⟩), hj, ?_, ?_⟩
  · intro hm'
    rcases List.mem_cons.mp hm' with e | hm'
    · exact absurd F.ns.lt (e ▸ Nat.lt_irrefl _)
    · exact (N _ hm).2.1 (List.mem_singleton.mp hm').symm
  · intro b hb
    rw [List.mem_singleton.mp hb]
    exact next_is_new F
  · intro p hp hI
    exact absurd (Heap.lt_size (N p hp).1) ((List.mem_singleton.mp hI) ▸ Nat.lt_irrefl _)
  · rintro i v m₁ news₁ s₁ own ⟨hh', tk', rfl⟩ hin hP hJ hoff hown _ hmem hst F₁ N₁
    have hv : vs[i]? = some v := by simpa using hP
    have N₂ : News h₀ env.locals hh' (news₁ ++ own) := fun p hp => N₁ p ((List.mem_append.mp hp).elim (fun h => List.mem_append.mpr (.inr h)) fun h => List.mem_append.mpr (.inl h))
    refine wpC_mono (turn i v m₁ news₁ hh' tk' own s.heap.objs.size hv (fun q hq e => hoff q hq (List.mem_singleton.mpr e)) (fun p hp => by
      rcases List.mem_cons.mp (hown p hp) with h | h
      · exact .inl h
      · exact .inr (List.mem_singleton.mp h)) (by
        obtain ⟨⟨oi, hoi, _⟩, _⟩ := hst
        exact ⟨(s.heap.objs.size, oi), hmem _ (.head _) (next_is_new F) oi hoi, rfl⟩) hJ F₁ N₂) (fun f s₂ p => ?_) fun _ _ e => e
    have fin : VEnd h₀ env.locals (J m₀ (i + 1)) own s.heap.objs.size { s with heap := hh', toks := tk' } s₂ → LoopStepU h₀ env.locals [s.heap.objs.size] own (J m₀ (i + 1)) { s with heap := hh', toks := tk' } .next s₂ := by
      rintro ⟨h', tk, m', news', nx, e, F', N', hn, ho, ha, hm⟩
      exact ⟨rfl, h', tk, m', nx, e, F', fun p hp => N' p ((List.mem_append.mp hp).elim (ho p) (hn p)), fun p hp hq => ha p hp (List.mem_singleton.mp hq), hm⟩
    cases f with
    | ret v => exact .ret p
    | brk => exact .brk p
    | next => exact .next (fin p)
    | cont => exact .cont (fin p)
  · rintro h' tk m' news' F' N' _ hJ
    exact done m' news' h' tk hJ F' N'
/-- as ConX, in stacks with the claim's caller -/
def ConXC (w : World) (f : Addr) (vs : List Value) (dep un' : Nat) (base : Heap) (news : Led) (Post : (Addr × Obj → Prop) → Value → Prop) (Ex : Prop) : Prop :=
  ∀ (mean : ExcName → Option Value) (mg mb : Str → Option Value)
    (dp un : Nat) (gd : Option (List Code)) (cn : Str) (cs : Scope) (a : Addr) (ccd : Value) (cl : List (Str × Addr)) (outer : List Env) (A₀ : Around) (h₀ : Heap) (L : Addr) (m : Str → Option Value) (s : Shared)
    (Q E : Value → Shared → Prop),
    Below A₀ base outer h₀ → Fr h₀ L s.heap m → (hd.heap_39 w.params).In h₀ → News h₀ L s.heap news → Top hd.view_39 LS mean mg mb h₀ → cs.kind = .function →
    dp + dep < recursionLimit → un + un' < cLine →
    (∀ r news' h' tk', Fr h₀ L h' m → News h₀ L h' news' → Grown news news' → Post (Fresh news news') r → Q r { s with heap := h', toks := tk' }) →
    (∀ g' h' tk' e news', Ex → Fr h₀ L g' m → RaisedSN base g' (envX cn cs L a ccd cl :: outer) e (.type "ValueError") news' h' → Grown news news' → g'.UpToSlots h' → E (.ref e) { s with heap := h', toks := tk' }) →
    wpC (model prg w) (ktrTop dp un gd cn cs L a ccd cl outer) (call (.ref f) vs) Q E s
theorem ConX.toC {w : World} {f : Addr} {vs : List Value} {dep un' : Nat} {base : Heap} {news : Led} {Post : (Addr × Obj → Prop) → Value → Prop} {Ex : Prop} (C : ConX w f vs dep un' base news Post Ex) : ConXC w f vs dep un' base news Post Ex :=
  fun mean mg mb dp un gd cn cs a ccd cl outer A₀ h₀ L m s Q E B F X N T hk hd hu hret hexc => wpC_of (C mean mg mb dp un gd cn cs a ccd cl outer A₀ h₀ L m s Q E B F X N T hk hd hu hret hexc)
/-- what int() refuses -/
def BadP (p : List Nat) : Prop := Txt.strip (SS p) = SS p ∧ p ≠ [] ∧ p.length ≤ 100 ∧ ∃ (f n : Nat) (z : List Nat), Comes (2 ^ 66) (MM p) (Found 2 0 n 2 [(0 : Nat), (f : Nat), ((f + 1 : Nat) : Int), (n : Nat)]) ∧ (⟨(SS p).cps.extract 0 f⟩ : Str) = SS z ∧ (SS z).length ≤ 640 ∧ (reprText (SS z)).length ≤ 1000 ∧
  (int_private% "readNumeral") 0 10 (numSeenOf (SS z)) = (int_private% "Numeral.invalid")
inductive CollB : List (List Nat) → Prop
  | here {p : List Nat} {ps : List (List Nat)} : BadP p → CollB (p :: ps)
  | more {p : List Nat} {t : List (List Nat)} {ps : List (List Nat)} : Piece p (some t) → CollB ps → CollB (p :: ps)
theorem CollB.look {p : List Nat} {ps : List (List Nat)} (h : CollB (p :: ps)) : (Txt.strip (SS p) = SS p ∧ CollB ps ∧ ∃ t, Shape p (some t)) ∨ BadP p := by
  generalize hq : p :: ps = q at h
  cases h with
  | here h => injection hq with h1 h2; subst h1 h2; exact .inr h
  | more hp hc => injection hq with h1 h2; subst h1 h2; exact .inl ⟨hp.shape.2, hc, _, hp.shape.1⟩
theorem CollB.ne {ps : List (List Nat)} (h : CollB ps) : ps ≠ [] := by cases h <;> simp
theorem badP_letter : BadP [120, 42, 117, 56] := by
  refine ⟨by decide +kernel, by simp, by simp, 1, 4, [120], okSome_ok (by omega) letter_yes, by decide +kernel, by decide +kernel, by decide +kernel, refused_x⟩
theorem badP_twice : BadP [50, 42, 51, 42, 117, 56] := by
  refine ⟨by decide +kernel, by simp, by simp, 3, 6, [50, 42, 51], okSome_ok (by omega) twice_yes, by decide +kernel, by decide +kernel, by decide +kernel, refused_23⟩
/-- between the turns of preprocess_tokens's loop, a refusal ahead -/
def PreB (ps : List (List Nat)) (newsA : Led) (m₀ : Str → Option Value) (i : Nat) (m : Str → Option Value) (nx : Led) : Prop :=
  (∀ z, z ≠ Str.ofString "final_tokens" → ([Str.ofString "meta_token", Str.ofString "factor", Str.ofString "m", Str.ofString "tokens"] : List Str).contains z = false → m z = m₀ z) ∧
  ∃ l us n nx' acc, nx = (l, ({ cls := .type "list", data := .seq us.toArray n } : Obj)) :: nx' ∧ (∀ p ∈ nx', p.1 ≠ l) ∧ Grown newsA nx' ∧ (∀ q ∈ newsA, q.1 ≠ l) ∧
    m (Str.ofString "final_tokens") = some (.ref l) ∧ StrsAre us ((acc : List (List Nat)).map SS) ∧ acc.length ≤ 3 * i ∧ CollB (ps.drop i)
theorem PreB.start {ps : List (List Nat)} {newsA : Led} {m₀ : Str → Option Value} {l : Addr} (h1 : m₀ (Str.ofString "final_tokens") = some (.ref l)) (h2 : ∀ q ∈ newsA, q.1 ≠ l) (h3 : CollB ps) : PreB ps newsA m₀ 0 m₀ ((l, lstO []) :: newsA) :=
  ⟨fun _ _ _ => rfl, l, [], 0, newsA, [], rfl, h2, Grown.refl _, h2, h1, .nil, by simp, by simpa using h3⟩
theorem PreB.next {ps : List (List Nat)} {newsA nx' : Led} {m₀ m' : Str → Option Value} {i n' : Nat} {l2 : Addr} {us' : List Value} {acc t : List (List Nat)}
    (hoff : ∀ p ∈ nx', p.1 ≠ l2) (hgr : Grown newsA nx') (hnl : ∀ q ∈ newsA, q.1 ≠ l2)
    (hm' : ∀ z, z ≠ Str.ofString "final_tokens" → z ≠ Str.ofString "meta_token" → z ≠ Str.ofString "factor" → z ≠ Str.ofString "m" → z ≠ Str.ofString "tokens" → m' z = m₀ z)
    (e1 : m' (Str.ofString "final_tokens") = some (.ref l2)) (hst' : StrsAre us' ((acc ++ t).map SS)) (hal : acc.length ≤ 3 * i) (ht : t.length ≤ 3) (hcm2 : CollB (ps.drop (i + 1))) :
    PreB ps newsA m₀ (i + 1) m' ((l2, ({ cls := .type "list", data := .seq us'.toArray n' } : Obj)) :: nx') := by
  refine ⟨fun z z1 z2 => ?_, l2, us', n', nx', acc ++ t, rfl, hoff, hgr, hnl, e1, hst', by rw [List.length_append]; omega, hcm2⟩
  simp only [List.contains_cons, List.contains_nil, Bool.or_eq_false_iff, beq_eq_false_iff_ne] at z2
  exact hm' z z1 z2.1 z2.2.1 z2.2.2.1 z2.2.2.2.1
end Mine
end

section
open PySem PySem.W PySem.Spec PySem.Calls PyProof.Rows
set_option Elab.async false
set_option maxRecDepth 100000
set_option maxHeartbeats 8000000
set_option linter.unusedVariables false
namespace Mine
local macro_rules | `(tactic| walk_at "pad P2 0") => `(tactic| fail)
local macro_rules | `(tactic| walk_at "pad P2 1") => `(tactic| fail)
local macro_rules | `(tactic| walk_at "pad P2 2") => `(tactic| fail)
local macro_rules | `(tactic| walk_at "pad P2 3") => `(tactic| fail)
local macro_rules | `(tactic| walk_at "pad P2 4") => `(tactic| fail)
local macro_rules | `(tactic| walk_at "pad P2 5") => `(tactic| fail)
local macro_rules | `(tactic| walk_at "pad P2 6") => `(tactic| fail)
local macro_rules | `(tactic| walk_at "pad P2 7") => `(tactic| fail)
local macro_rules | `(tactic| walk_at "pad P2 8") => `(tactic| fail)
local macro_rules | `(tactic| walk_at "pad P2 9") => `(tactic| fail)
local macro_rules | `(tactic| walk_at "pad P2 10") => `(tactic| fail)
local macro_rules | `(tactic| walk_at "pad P2 11") => `(tactic| fail)
local macro_rules | `(tactic| walk_at "pad P2 12") => `(tactic| fail)
local macro_rules | `(tactic| walk_at "pad P2 13") => `(tactic| fail)
local macro_rules | `(tactic| walk_at "pad P2 14") => `(tactic| fail)
local macro_rules | `(tactic| walk_at "pad P2 15") => `(tactic| fail)
local macro_rules | `(tactic| walk_at "pad P2 16") => `(tactic| fail)
theorem kept_part40 (h : hd.heap_39 = hd.heap_39 → PySem.Challenge.rw_fc0017_01 = PySem.Challenge.rw_fc0017_01) : True := by
  revert h
  k_fill
  w_top off
  k_with_none
  intro _; trivial
local macro_rules | `(tactic| walk_at "my enter") => `(tactic| (refine' code_def ?k1 ?k2 ?k3 ?k4 ?k5 ?kA ?kF ?kK ?k6 ?k7 ?k8 ?k9 ?kB ?_ ?c2 ?c3 ?c4 ?c5; (case kA => exact rfl); (case kF => exact rfl); (case kK => assumption); (case k1 => k_asm); (case k2 => k_asm); (case k3 => k_asm); (case k4 => k_asm); (case k5 => k_asm); (case k6 => k_is); (case k7 => k_is); (case k8 => ktr_room); (case k9 => exact BindsTo.of_eq rfl); (case c5 => decide); (case kB => exact locs rfl); (case c2 => exact rfl); (case c3 => exact rfl); (case c4 => exact rfl); k_whole; intro g' L' h' FG' F' N' B' X' T'; (try dsimp only); (try k_lift B'); (try k_fold)))
local macro_rules | `(tactic| walk_at "my use") => `(tactic| ( (case k1 => k_asm); (case k2 => k_asm); (case k3 => k_asm); (case k4 => k_asm); (case k5 => k_asm); (case kK => first | exact rfl | assumption); (case kd => ktr_room); (case ku => ktr_units)))
local macro_rules | `(tactic| walk_at "call ref") => `(tactic| (k_here; k_extra "call ref"))
local macro_rules | `(tactic| walk_at "pyIter ref") => `(tactic| (k_here; k_extra "pyIter ref"))
local macro_rules | `(tactic| walk_at "exec For Name Call cons nil") => `(tactic| (k_here; k_extra "exec For Name Call cons nil"))
local macro_rules | `(tactic| walk_at "exec For Name Name cons nil") => `(tactic| (k_here; (rename Fr _ _ _ _ => lF9); (with_unfolding_all refine' For_invVF lF9 ?k1 ?k2 ?_; (case k1 => exact rfl); (case k2 => exact rfl); k_whole)))
local macro_rules | `(tactic| walk_at "my lt") => `(tactic| first | exact ne_of_allLt (by assumption) | exact ne_of_allLt (allLt_of (by assumption)) | exact ne_of_off1 (by assumption))
local macro_rules | `(tactic| walk_at "my grown") => `(tactic| first | assumption | exact Grown.refl _ | exact Grown.trans (by assumption) (by assumption) | (refine Grown.cons ?_ ?_; (walk_at "my grown"); (walk_at "my lt")) | (refine Grown.dup ?_ ?_; (walk_at "my grown"); (walk_at "my mem")))
local macro_rules | `(tactic| walk_at "my fresh") => `(tactic| first | exact fresh_head (by walk_at "my grown") (by walk_at "my lt") | (refine Fresh.tail ?_; walk_at "my fresh"))
local macro_rules | `(tactic| walk_at "my mem") => `(tactic| first | exact .head _ | assumption | (refine .tail _ ?_; walk_at "my mem") | (refine Grown.sub (by assumption) _ ?_; walk_at "my mem"))
local macro_rules | `(tactic| walk_at "my fit") => `(tactic| k_extra "my fit")
local macro_rules | `(tactic| walk_at "binaryOp Add") => `(tactic| (k_here; (with_reducible show wpAny _ _ (binaryOp Operator.Add (Value.ref _) (Value.ref _)) _ _ _); refine' add_two ?k1 ?k2 ?k3 ?k4 ?k5 ?_; (case k1 => k_asm); (case k2 => k_asm); (case k3 => walk_at "my mem"); (case k4 => walk_at "my mem"); (case k5 => walk_at "my fit"); k_whole; intro a9' h9' F9' N9' l9'))
local macro_rules | `(tactic| walk_at "eval ListComp") => `(tactic| (k_here; k_dflt (refine LCg.ListComp_U (F₀ := by k_asm) (by rfl) (by decide) (by rfl) (by decide) (by rfl) ?_)))
local macro_rules | `(tactic| walk_at "CompSrc") => `(tactic| (k_extra "CompSrc"))
local macro_rules | `(tactic| walk_at "call builtin:str.join") => `(tactic| (k_here; k_extra "call builtin:str.join"))
local macro_rules | `(tactic| walk_at "binaryOp Mult ref int") => `(tactic| (k_here; k_extra "binaryOp Mult ref int"))
local macro_rules | `(tactic| walk_at "call builtin:str.find") => `(tactic| (k_here; k_extra "call builtin:str.find"))
local macro_rules | `(tactic| walk_at "exec While Compare cons nil") => `(tactic| (k_here; k_extra "exec While Compare cons nil"))
local macro_rules | `(tactic| walk_at "leaving ref") => `(tactic| (k_here; k_extra "leaving ref"))
local macro_rules | `(tactic| walk_at "getMethod ref") => `(tactic| (k_here; k_extra "getMethod ref"))
local macro_rules | `(tactic| walk_at "call builtin:re.Pattern.search") => `(tactic| (k_here; k_extra "call builtin:re.Pattern.search"))
local macro_rules | `(tactic| walk_at "call builtin:re.Match.group") => `(tactic| (k_here; k_extra "call builtin:re.Match.group"))
local macro_rules | `(tactic| walk_at "call builtin:re.Match.start") => `(tactic| (k_here; k_extra "call builtin:re.Match.start"))
local macro_rules | `(tactic| walk_at "truthy ref") => `(tactic| (k_here; k_extra "truthy ref"))
local macro_rules | `(tactic| walk_at "binaryOp Mult int str") => `(tactic| (k_here; k_extra "binaryOp Mult int str"))
local macro_rules | `(tactic| walk_at "call builtin:int.__new__") => `(tactic| (k_here; k_extra "call builtin:int.__new__"))
local macro_rules | `(tactic| walk_at "call type:int") => `(tactic| (k_here; k_extra "call type:int"))
local macro_rules | `(tactic| walk_at "exec Assign cons ListComp") => `(tactic| (k_here; k_extra "exec Assign cons ListComp"))
theorem pre_bad {w : World} {base : Heap} {news : Led} {x z : List Nat} {t0 : Tok} (hx : x.length ≤ 100000) (hE : Ends 100000 (noBlank x) (some z)) (hz : z.length ≤ 100000) (hC : CollB (splitC z)) :
    ConXC w 65 [.str (SS x) t0] 4 64 base news (fun _ _ => False) True := by
  intro mean mg mb dp un gd cn cs a ccd cl outer A₀ h₀ L m s Q E B F X N T hk hd hu hret hexc
  have hl1 : (SS x).length ≤ 100000 := by rw [SS_len]; exact hx
  have hl2 : (noBlank x).length ≤ 100000 := Nat.le_trans (List.length_filter_le _ _) hx
  refine wpC_call ?_
  (refine' codeC_def ?k1 ?k2 ?k3 ?k4 ?k5 ?kA ?kF ?kK ?k6 ?k7 ?k8 ?k9 ?kB ?_ ?c2 ?c3 ?c4 ?c5; (case kA => exact rfl); (case kF => exact rfl); (case kK => assumption); (case k1 => k_asm); (case k2 => k_asm); (case k3 => k_asm); (case k4 => k_asm); (case k5 => k_asm); (case k6 => k_is); (case k7 => k_is); (case k8 => ktr_room); (case k9 => exact BindsTo.of_eq rfl); (case c5 => decide); (case kB => exact locs rfl); (case c2 => exact rfl); (case c3 => exact rfl); (case c4 => exact rfl); k_whole; intro g' L' h' FG' F' N' B' X' T'; (try dsimp only); (try k_lift B'))
  refine wpC_execs3 ?_
  k_fold
  k_with_none
  k_with "call ref" => (
    rw [words_SS]
    refine' con_use ((expand_walk hE hl2).con (by simp)) ?k1 ?k2 ?k3 ?k4 ?k5 ?kK ?kd ?ku ?kret
    walk_at "my use"
    case' kret =>
      intro r9 news9 h9 tk9 F9 N9 g9 p9
      obtain ⟨z9, t9, hz9, e9⟩ := p9
      injection hz9 with hz9
      subst hz9
      subst e9
      have hA0 : Grown news news9 := Grown.trans (Grown.cons (Grown.refl _) (fun p hp => Nat.ne_of_lt (Heap.lt_size (‹News _ _ _ news› p hp).1))) g9
      have hzl8 : (SS z).length ≤ 100000 := by rw [SS_len]; exact hz
      (try dsimp only)
      (try k_fold))
  k_with "exec Assign cons ListComp" => (k_dflt (refine LCg.Assign_ListComp_U (F₀ := by k_asm) (by rfl) (by with_unfolding_all rfl) (by with_unfolding_all rfl) (by decide) (by rfl) (by decide) (by rfl) (by rfl) (by rfl) ?_))
  k_with "call builtin:str.split" => (
    (with_reducible show wpAny _ _ (call (Value.builtin "str.split") [Value.str _ _, Value.str _ _]) _ _ _)
    refine KSpl.split1 (by k_asm) (by k_asm) (by decide) ?_ (by rw [SS_len]; unfold sizeLine; omega)
    intro D7 l7 h7 k7 e7 a7 F7 N7 lt7
    rw [split_SS] at e7
    rw [e7] at a7
    have hps := splitC_length z
    have hlen7 : (strValues l7).length = (splitC z).length := by rw [strs_len a7, List.length_map]
    (try dsimp only)
    (try k_fold))
  k_with "CompSrc" => (
    refine LCg.CompSrc.ledger (by rfl) (by k_asm) (by k_asm) (.head _) (by simp only [List.size_toArray, hlen7]; unfold sizeLine; omega) ?_
    intro g7
    refine' comp_strs ((splitC z).map fun p => Txt.strip (SS p)) (by simp [hlen7]) ?turn ?fin
    case' turn =>
      intro i v I oI C oC D m₂ ys h tk E' y hi hy hv hCl hx F N off ne
      have hi' : i < (splitC z).length := by rw [List.size_toArray, hlen7] at hi; exact hi
      obtain ⟨t8, hv8⟩ := StrsAre.get a7 i (SS ((splitC z)[i])) (by rw [List.getElem?_map, List.getElem?_eq_getElem hi']; rfl)
      have hvv : v = .str (SS ((splitC z)[i])) t8 := by
        have hv' : (strValues l7)[i]? = some v := by simpa using hv
        rw [hv8] at hv'
        exact (Option.some.inj hv').symm
      have hyy : y = Txt.strip (SS ((splitC z)[i])) := by
        rw [List.getElem?_map, List.getElem?_eq_getElem hi'] at hy
        exact (Option.some.inj hy).symm
      have hpl : (SS ((splitC z)[i])).length ≤ 100000 := by
        rw [SS_len]; exact Nat.le_trans (splitC_le z _ (List.getElem_mem hi')) hz
      subst hvv
      subst hyy
      (try k_fold)
    case' fin =>
      intro ys hys
      (unfold LCg.FinA)
      intro D7 h7 tk7 F7 N7 o7
      have hysl : ys.length = (splitC z).length := by rw [strs_len hys, List.length_map]
      have ltA := ne_of_off1 o7
      have hA := Grown.cons (o := LCg.lst ys) (Grown.cons hA0 (fun p hp => Nat.ne_of_lt (lt7 p hp))) ltA
      (try dsimp only))
  k_steps
  all_goals (try k_data)
  rotate_left
  · refine' comp_end ?ca ?cb ?cc ?cd ?ce
    case ca => k_asm
    case cb => k_asm
    case cc => exact Grown.refl _
    case cd => assumption
    case ce => exact .inr ⟨_, .head _, rfl, _, rfl⟩
  refine wpC_execs_cons ?_
  with_unfolding_all refine' wpC_For (h₀ := g') ?w1 ?w2 ?w3 ?w4 ?w5
  case w2 => rfl
  case w3 => rfl
  case w4 => exact fun _ => rfl
  case w5 => passes_own
  k_fold
  k_with "pyIter ref" => (
    (rename Fr _ _ _ _ => lF); (rename News _ _ _ _ => lN)
    with_unfolding_all refine' val_loopC (vs := ys) (PreB (splitC z) _) (by rfl) ?pm lF lN ?pj ?pturn ?pdone
    case pm => walk_at "my mem"
    case pj =>
      refine' PreB.start ?ph1 ?ph2 ?ph3
      case ph1 => with_unfolding_all exact rfl
      case ph2 => walk_at "my lt"
      case ph3 => exact hC
    case' pturn =>
      intro i v m₁ nx h2 tk2 own I hv hI hi hex hJ lF lN
      obtain ⟨hm1, l2, us, n2, nx', acc, rfl, hoff, hgr, hnl, e1, hst, hal, hcm⟩ := hJ
      rw [map_form1 _ _ e1 hm1] at lF
      have hi7 : i < (splitC z).length := by
        have := (List.getElem?_eq_some_iff.mp hv).1
        omega
      obtain ⟨t8, hv8⟩ := StrsAre.get hys i (Txt.strip (SS ((splitC z)[i]))) (by rw [List.getElem?_map, List.getElem?_eq_getElem hi7]; rfl)
      rw [hv] at hv8
      have hvv := Option.some.inj hv8
      rw [List.drop_eq_getElem_cons hi7] at hcm
      obtain ⟨p, hpe⟩ : ∃ p, p = (splitC z)[i] := ⟨_, rfl⟩
      rw [← hpe] at hcm hvv
      subst hvv
      have hcs := hcm.look
      have hpl7 : (SS p).length ≤ 100000 := by
        rw [SS_len, hpe]; exact Nat.le_trans (splitC_le z _ (List.getElem_mem hi7)) hz
      have husl : us.length = acc.length := by rw [strs_len hst, List.length_map]
      have hoffo : ∀ p ∈ nx' ++ own, p.1 ≠ l2 := by
        intro p hp
        rcases List.mem_append.mp hp with h | h
        · exact hoff p h
        · rcases hi p h with e | e
          · rw [e]; exact (hI _ (.head _)).symm
          · rw [e]; exact hnl (D7, _) (.head _)
      (try dsimp only)
      rcases hcs with ⟨hp, hcm2, tt, hsh⟩ | hsh
      case' inr =>
        obtain ⟨hp, hs1, hs2, f5, n5, z5, hs3, hs4, hs5, hs6, hs7⟩ := hsh
        rw [hp] at lF
        refine wpC_execs2 ?_
      case' inl =>
        rw [hp] at lF
        refine wpC_of ?_
        rcases hsh.look with ⟨hs1, hs2⟩ | ⟨hs1, hs2, hs3, hs4, hs5⟩ | ⟨f5, n5, c5, w5, hs1, hs2, hs3, hs4, hs5, hs6, hs7, hs8, hs9, hs10⟩
      all_goals (try k_fold)
    case' pdone =>
      intro m₁ nx h2 tk2 hJ lF lN
      obtain ⟨hm1, l2, us, n2, nx', acc, rfl, hoff, hgr, hnl, e1, hst, hal, hcm⟩ := hJ
      exfalso
      rw [List.drop_eq_nil_of_le (by omega)] at hcm
      exact hcm.ne rfl)
  k_with "getMethod ref" => first
    | (refine method_pat (mult_pat (by k_in)) slot_match type_match ?_; (try dsimp only))
    | (refine method_pat (struct_pat (by k_in)) slot_match type_match ?_; (try dsimp only))
    | (refine' mmat_group ?mX ?mN ?m2 ?m1 ?_; (case mX => k_in); (case mN => k_asm); (case m2 => walk_at "my mem"); (case m1 => walk_at "my mem"); (try dsimp only))
  k_with "truthy ref" => (refine' mmat_truthy ?mX ?mN ?m2 ?m1 ?_; (case mX => k_in); (case mN => k_asm); (case m2 => walk_at "my mem"); (case m1 => walk_at "my mem"); (try dsimp only))
  k_with "call builtin:re.Match.group" => first
    | (refine' mmat_factor ?mX ?mN ?m2 ?m1 ?mx ?mz ?_; (case mX => k_in); (case mN => k_asm); (case m2 => walk_at "my mem"); (case m1 => walk_at "my mem"); (case mx => rw [SS_len]; omega); (case mz => first | exact hs6 | exact hs4); intro t5 k6; (try dsimp only))
    | (refine' mmat_token ?mX ?mN ?m2 ?m1 ?mx ?mz ?_; (case mX => k_in); (case mN => k_asm); (case m2 => walk_at "my mem"); (case m1 => walk_at "my mem"); (case mx => rw [SS_len]; omega); (case mz => exact hs7); intro t5 k6; (try dsimp only))
  k_with "call type:int" => (refine KIN.call_text (by first | exact hs8 | exact hs6) (by rw [SS_len]; first | omega | exact Nat.le_trans (by decide : ([0] : List Nat).length ≤ 1) (by decide)) ?_; (try dsimp only))
  k_with "call builtin:re.Pattern.match" => first
    | (exfalso; subst hs1; (have q9 : (SS [] == Str.ofString "") = true := by decide +kernel); simp_all; done)
    | (refine match_call (mult_pat (by k_in)) (by rw [SS_len]; omega) ?_
       first
       | (refine answer_none (Nat.le_refl _) hs3 ?_; refine ⟨_, rfl, ?_⟩)
       | ((rename News _ _ _ _ => cN)
          (first | refine' answer_some ?sF ?sN (Nat.le_refl _) ?sg hs5 ?_ | refine' answer_some ?sF ?sN (Nat.le_refl _) ?sg hs3 ?_)
          case sF => k_asm
          case sN => k_asm
          case sg => simp
          intro a1 a2 h9 F9 N9 q1 q2
          have lt91 : l2 < a1 := Nat.lt_of_lt_of_le (Heap.lt_size (cN _ (.head _)).1) q1
          refine ⟨_, rfl, ?_⟩)
       ((try dsimp only); (try k_fold)))
    | (refine match_call (struct_pat (by k_in)) (by rw [SS_len]; omega) ?_; refine answer_none (Nat.le_refl _) (by first | exact hs9 | exact hs4) ?_; refine ⟨_, rfl, ?_⟩; ((try dsimp only); (try k_fold)))
  k_with "binaryOp Mult ref int" => first
    | (refine' mul_two ?ka ?kb ?kc ?kd ?ke ?_
       case ka => k_asm
       case kb => k_asm
       case kc => walk_at "my mem"
       case kd => omega
       case ke => simp
       intro a6 h6 F6 N6 lt6
       (try dsimp only))
    | ((show wpAny _ _ (binaryOp .Mult (.ref _) (.int ((1 : Nat) : Int) _)) _ _ _)
       refine' mul_two ?ka ?kb ?kc ?kd ?ke ?_
       case ka => k_asm
       case kb => k_asm
       case kc => walk_at "my mem"
       case kd => omega
       case ke => simp
       intro a6 h6 F6 N6 lt6
       (try dsimp only))
  k_with "call builtin:list.extend" => (
    (rename Fr _ _ _ _ => xF); (rename News _ _ _ _ => xN)
    first
    | (refine' ext_list (pre := [_, _]) (post := nx' ++ own) xF xN ?xp ?xq ?xb ?x1 ?x2 ?_
       case' xp =>
         intro p hp
         simp only [List.mem_cons, List.not_mem_nil, or_false] at hp
         rcases hp with rfl | rfl)
    | (refine' ext_list (pre := [_, _, _, _]) (post := nx' ++ own) xF xN ?xp ?xq ?xb ?x1 ?x2 ?_
       case' xp =>
         intro p hp
         simp only [List.mem_cons, List.not_mem_nil, or_false] at hp
         rcases hp with rfl | rfl | rfl | rfl)
    case xq => exact hoffo
    case xb => walk_at "my mem"
    case x1 => omega
    case x2 => simp; try omega
    all_goals first | exact Nat.ne_of_gt (ltAll (q := (l2, ({ cls := .type "list", data := .seq us.toArray n2 } : Obj))) (by assumption) (by walk_at "my mem")) | exact Nat.ne_of_gt (ktn_ltOf (by assumption) (l2, ({ cls := .type "list", data := .seq us.toArray n2 } : Obj)) (by walk_at "my mem")) | exact Nat.ne_of_gt lt91 | exact Nat.ne_of_gt (Nat.lt_trans lt91 q2) | exact Nat.ne_of_gt (Nat.lt_trans lt91 (‹a2 < _ ∧ a1 < _ ∧ _›).2.1) | skip
    intro n9 h9 F9 N9
    (try dsimp only))
  k_steps
  all_goals (try k_data)
  · refine pre_close (pre := []) (o := ({ cls := .type "list", data := .seq us.toArray n2 } : Obj)) (by assumption) (by assumption) hI (PreB.next (t := tt) hoff hgr hnl ?_ ?_ ?_ hal ?_ hcm2)
    · intro z z1 z2 z3 z4 z5; simp [z1, z2, z3, z4, z5]
    · with_unfolding_all exact rfl
    · rw [hs2, List.append_nil]; exact hst
    · rw [hs2]; decide
  · exfalso; exact hs1 (SS_inj ((eq_of_beq (by assumption)).trans s_none))
  · refine pre_close (pre := [_, _]) (o := ({ cls := .type "list", data := .seq us.toArray n2 } : Obj)) (by assumption) N9 hI (PreB.next (t := tt) hoff hgr hnl ?_ ?_ ?_ hal ?_ hcm2)
    · intro z z1 z2 z3 z4 z5; simp [z1, z2, z3, z4, z5]
    · with_unfolding_all exact rfl
    · rw [hs2, List.map_append]; exact strs_append hst (strs_rep1 1)
    · rw [hs2]; simp
  · exfalso; exact hs1 (SS_inj ((eq_of_beq (by assumption)).trans s_none))
  · (rename Fr _ _ _ _ => xF); (rename News _ _ _ _ => xN)
    refine' ext_list (pre := [_, _, _, _]) (post := nx' ++ own) xF xN ?yp ?yq ?yb ?y1 ?y2 ?_
    case' yp =>
      intro p hp
      simp only [List.mem_cons, List.not_mem_nil, or_false] at hp
      rcases hp with rfl | rfl | rfl | rfl
    case yq => exact hoffo
    case yb => walk_at "my mem"
    case y1 => omega
    case y2 => simp; try omega
    all_goals first | exact Nat.ne_of_gt (ltAll (q := (l2, ({ cls := .type "list", data := .seq us.toArray n2 } : Obj))) (by assumption) (by walk_at "my mem")) | exact Nat.ne_of_gt (ktn_ltOf (by assumption) (l2, ({ cls := .type "list", data := .seq us.toArray n2 } : Obj)) (by walk_at "my mem")) | exact Nat.ne_of_gt lt91 | exact Nat.ne_of_gt (Nat.lt_trans lt91 q2) | exact Nat.ne_of_gt (Nat.lt_trans lt91 (‹a2 < _ ∧ a1 < _ ∧ _›).2.1) | skip
    intro n9 h9 F9 N9
    (try dsimp only)
    k_steps
    refine pre_close (pre := [_, _, _, _]) (o := ({ cls := .type "list", data := .seq us.toArray n2 } : Obj)) (by assumption) N9 hI (PreB.next (t := tt) hoff hgr hnl ?_ ?_ ?_ hal ?_ hcm2)
    · intro z z1 z2 z3 z4 z5; simp [z1, z2, z3, z4, z5]
    · with_unfolding_all exact rfl
    · rw [hs2, List.map_append, List.map_replicate]; exact strs_append hst (strs_rep1 c5)
    · rw [hs2]; simp; omega
  · exfalso; exact hs1 (SS_inj ((eq_of_beq (by assumption)).trans s_none))
  · refine wpC_execs_cons (wpC_If ?_)
    refine wpC_of ?_
    k_fold
    k_steps
    all_goals (try k_data)
    refine wpC_execs_cons (wpC_Assign_Name (wpC_Call_type1 (T := "int") ?_) (by rfl))
    k_fold
    k_steps
    all_goals (try k_data)
    refine callC_int (by rfl) (by first | exact hs5 | (rw [hs4]; exact hs5)) (by first | exact hs7 | (rw [hs4]; exact hs7)) (by first | exact hs6 | (rw [hs4]; exact hs6)) ?_
    intro h9 tk9 e9 hx9
    (rename News _ _ _ _ => xN)
    refine' leave_newS ?k1 ?k0 ?k2 ?k3 ?_
    case k1 => assumption
    case k0 => exact hx9
    case k2 => assumption
    case k3 => exact (fun p hp => xN p (by have := hgr.sub _ (hA.sub _ hp); simp [this]) : News _ _ _ news)
    intro h9 R9 RN9 U9
    (try dsimp only at R9 U9 ⊢)
    exact hexc _ _ _ _ _ trivial (by assumption) R9 (Grown.refl _) U9

end Mine
end

section
open PySem PySem.W PySem.Spec PySem.Calls PyProof.Rows
set_option Elab.async false
set_option maxRecDepth 100000
set_option maxHeartbeats 8000000
set_option linter.unusedVariables false
namespace Mine
local macro_rules | `(tactic| walk_at "pad R1 0") => `(tactic| fail)
local macro_rules | `(tactic| walk_at "pad R1 1") => `(tactic| fail)
local macro_rules | `(tactic| walk_at "pad R1 2") => `(tactic| fail)
local macro_rules | `(tactic| walk_at "pad R1 3") => `(tactic| fail)
local macro_rules | `(tactic| walk_at "pad R1 4") => `(tactic| fail)
local macro_rules | `(tactic| walk_at "pad R1 5") => `(tactic| fail)
local macro_rules | `(tactic| walk_at "pad R1 6") => `(tactic| fail)
local macro_rules | `(tactic| walk_at "pad R1 7") => `(tactic| fail)
local macro_rules | `(tactic| walk_at "pad R1 8") => `(tactic| fail)
local macro_rules | `(tactic| walk_at "pad R1 9") => `(tactic| fail)
local macro_rules | `(tactic| walk_at "pad R1 10") => `(tactic| fail)
local macro_rules | `(tactic| walk_at "pad R1 11") => `(tactic| fail)
local macro_rules | `(tactic| walk_at "pad R1 12") => `(tactic| fail)
local macro_rules | `(tactic| walk_at "pad R1 13") => `(tactic| fail)
local macro_rules | `(tactic| walk_at "pad R1 14") => `(tactic| fail)
local macro_rules | `(tactic| walk_at "pad R1 15") => `(tactic| fail)
local macro_rules | `(tactic| walk_at "pad R1 16") => `(tactic| fail)
local macro_rules | `(tactic| walk_at "pad R1 17") => `(tactic| fail)
theorem kept_part41 (h : hd.heap_39 = hd.heap_39 → PySem.Challenge.rw_fc0017_01 = PySem.Challenge.rw_fc0017_01) : True := by
  revert h
  k_fill
  w_top off
  k_with_none
  intro _; trivial
local macro_rules | `(tactic| walk_at "my enter") => `(tactic| (refine' code_def ?k1 ?k2 ?k3 ?k4 ?k5 ?kA ?kF ?kK ?k6 ?k7 ?k8 ?k9 ?kB ?_ ?c2 ?c3 ?c4 ?c5; (case kA => exact rfl); (case kF => exact rfl); (case kK => assumption); (case k1 => k_asm); (case k2 => k_asm); (case k3 => k_asm); (case k4 => k_asm); (case k5 => k_asm); (case k6 => k_is); (case k7 => k_is); (case k8 => ktr_room); (case k9 => exact BindsTo.of_eq rfl); (case c5 => decide); (case kB => exact locs rfl); (case c2 => exact rfl); (case c3 => exact rfl); (case c4 => exact rfl); k_whole; intro g' L' h' FG' F' N' B' X' T'; (try dsimp only); (try k_lift B'); (try k_fold)))
local macro_rules | `(tactic| walk_at "my use") => `(tactic| ( (case k1 => k_asm); (case k2 => k_asm); (case k3 => k_asm); (case k4 => k_asm); (case k5 => k_asm); (case kK => first | exact rfl | assumption); (case kd => ktr_room); (case ku => ktr_units)))
local macro_rules | `(tactic| walk_at "call ref") => `(tactic| (k_here; k_extra "call ref"))
local macro_rules | `(tactic| walk_at "pyIter ref") => `(tactic| (k_here; k_extra "pyIter ref"))
local macro_rules | `(tactic| walk_at "exec For Name Call cons nil") => `(tactic| (k_here; k_extra "exec For Name Call cons nil"))
local macro_rules | `(tactic| walk_at "exec For Name Name cons nil") => `(tactic| (k_here; (rename Fr _ _ _ _ => lF9); (with_unfolding_all refine' For_invVF lF9 ?k1 ?k2 ?_; (case k1 => exact rfl); (case k2 => exact rfl); k_whole)))
local macro_rules | `(tactic| walk_at "my lt") => `(tactic| first | exact ne_of_allLt (by assumption) | exact ne_of_allLt (allLt_of (by assumption)) | exact ne_of_off1 (by assumption))
local macro_rules | `(tactic| walk_at "my grown") => `(tactic| first | assumption | exact Grown.refl _ | exact Grown.trans (by assumption) (by assumption) | (refine Grown.cons ?_ ?_; (walk_at "my grown"); (walk_at "my lt")) | (refine Grown.dup ?_ ?_; (walk_at "my grown"); (walk_at "my mem")))
local macro_rules | `(tactic| walk_at "my fresh") => `(tactic| first | exact fresh_head (by walk_at "my grown") (by walk_at "my lt") | (refine Fresh.tail ?_; walk_at "my fresh"))
local macro_rules | `(tactic| walk_at "my mem") => `(tactic| first | exact .head _ | assumption | (refine .tail _ ?_; walk_at "my mem") | (refine Grown.sub (by assumption) _ ?_; walk_at "my mem"))
local macro_rules | `(tactic| walk_at "my fit") => `(tactic| k_extra "my fit")
local macro_rules | `(tactic| walk_at "binaryOp Add") => `(tactic| (k_here; (with_reducible show wpAny _ _ (binaryOp Operator.Add (Value.ref _) (Value.ref _)) _ _ _); refine' add_two ?k1 ?k2 ?k3 ?k4 ?k5 ?_; (case k1 => k_asm); (case k2 => k_asm); (case k3 => walk_at "my mem"); (case k4 => walk_at "my mem"); (case k5 => walk_at "my fit"); k_whole; intro a9' h9' F9' N9' l9'))
local macro_rules | `(tactic| walk_at "eval ListComp") => `(tactic| (k_here; k_dflt (refine LCg.ListComp_U (F₀ := by k_asm) (by rfl) (by decide) (by rfl) (by decide) (by rfl) ?_)))
local macro_rules | `(tactic| walk_at "CompSrc") => `(tactic| (k_extra "CompSrc"))
local macro_rules | `(tactic| walk_at "call builtin:str.join") => `(tactic| (k_here; k_extra "call builtin:str.join"))
local macro_rules | `(tactic| walk_at "binaryOp Mult ref int") => `(tactic| (k_here; k_extra "binaryOp Mult ref int"))
local macro_rules | `(tactic| walk_at "call builtin:str.find") => `(tactic| (k_here; k_extra "call builtin:str.find"))
local macro_rules | `(tactic| walk_at "exec While Compare cons nil") => `(tactic| (k_here; k_extra "exec While Compare cons nil"))
local macro_rules | `(tactic| walk_at "leaving ref") => `(tactic| (k_here; k_extra "leaving ref"))
local macro_rules | `(tactic| walk_at "getMethod ref") => `(tactic| (k_here; k_extra "getMethod ref"))
local macro_rules | `(tactic| walk_at "call builtin:re.Pattern.search") => `(tactic| (k_here; k_extra "call builtin:re.Pattern.search"))
local macro_rules | `(tactic| walk_at "call builtin:re.Match.group") => `(tactic| (k_here; k_extra "call builtin:re.Match.group"))
local macro_rules | `(tactic| walk_at "call builtin:re.Match.start") => `(tactic| (k_here; k_extra "call builtin:re.Match.start"))
local macro_rules | `(tactic| walk_at "truthy ref") => `(tactic| (k_here; k_extra "truthy ref"))
local macro_rules | `(tactic| walk_at "binaryOp Mult int str") => `(tactic| (k_here; k_extra "binaryOp Mult int str"))
local macro_rules | `(tactic| walk_at "call builtin:int.__new__") => `(tactic| (k_here; k_extra "call builtin:int.__new__"))
local macro_rules | `(tactic| walk_at "call type:int") => `(tactic| (k_here; k_extra "call type:int"))
local macro_rules | `(tactic| walk_at "exec Assign cons ListComp") => `(tactic| (k_here; k_extra "exec Assign cons ListComp"))
theorem refused_walk {w : World} {base : Heap} {f : Addr} {o : Obj} {fd : FuncData} {x : List Nat} {t0 : Tok} {dep un' : Nat} (hfo : (hd.heap_39 w.params).lookup f = some o) (hfd : o.data = .func fd)
    (C : ∀ news, ConXC w f [.str (SS x) t0] dep un' base news (fun _ _ => False) True) (XB : (hd.heap_39 w.params).In base)
    {mean : ExcName → Option Value} {mg mb : Str → Option Value} (TB : Top hd.view_39 LS mean mg mb base)
    {dp un : Nat} {gd : Option (List Code)} {cn : Str} {cs : Scope} {a : Addr} {ccd : Value} {cl : List (Str × Addr)} {A₀ : Around} {h₀ : Heap} {L : Addr} {m : Str → Option Value} {s : Shared} {news : Led}
    {Q E : Value → Shared → Prop} (B : Below A₀ base [] h₀) (F : Fr h₀ L s.heap m) (X : (hd.heap_39 w.params).In h₀) (N : News h₀ L s.heap news) (T : Top hd.view_39 LS mean mg mb h₀) (hk : cs.kind = .function)
    (hd : dp + (dep + 4) < recursionLimit) (hu : un + (un' + 32) < cLine)
    (hret : ∀ h' tk', Fr h₀ L h' m → News h₀ L h' news → Q (.bool true) { s with heap := h', toks := tk' }) :
    wpC (model prg w) (ktrTop dp un gd cn cs L a ccd cl []) (call (.ref 116) [.ref f, .str (SS x) t0]) Q E s := by
  refine wpC_call ?_
  (refine' codeC_defS ?k1 ?k2 ?k3 ?k4 ?k5 ?kA ?kF ?kK ?k6 ?k7 ?k8 ?k9 ?kB ?_ ?c2 ?c3 ?c4 ?c5; (case kA => exact rfl); (case kF => exact rfl); (case kK => assumption); (case k1 => k_asm); (case k2 => k_asm); (case k3 => k_asm); (case k4 => k_asm); (case k5 => k_asm); (case k6 => k_is); (case k7 => k_is); (case k8 => ktr_room); (case k9 => exact BindsTo.of_eq rfl); (case c5 => decide); (case kB => exact locs rfl); (case c2 => exact rfl); (case c3 => exact rfl); (case c4 => exact rfl); k_whole; intro g' L' h' FG' F' N' B' X' T' D'; (try dsimp only); (try k_lift B'))
  k_with_none
  refine wpC_execs_cons (wpC_Try (wpC_execs_cons (wpC_Expr_Call (by rfl) (by rfl) (wpC_Call_fn1 ?_))))
  k_fold
  k_steps
  · exact (X'.keeps (Fr.keep (by assumption))) _ _ hfo
  rename Fr g' _ _ _ => lF
  rename News g' _ _ _ => lN
  refine C _ _ _ _ _ _ _ _ _ _ _ _ _ _ _ _ _ _ _ _ B' lF X' lN T' ?j1 ?j2 ?j3 ?j4 ?j5
  case j1 => exact rfl
  case j2 => ktr_room
  case j3 => ktr_units
  case j4 => exact fun _ _ _ _ _ _ _ z => z.elim
  case j5 =>
    intro g8 h8 tk8 e8 news8 _ F8 R8 G8 U8
    (try dsimp only)
    (with_unfolding_all refine' caught_SN0 (T' := "ValueError") (g₀ := g') R8 F8 B' U8 XB TB D' KtsTurn.refl ?ex PyProof.Rows.Boot.«ValueError» ?hn PySem.F.isExc_ValueError PySem.F.notTuple_ValueError ?hs ?_)
    case ex => k_is
    case hn => decide
    case hs => kts_sub
    intro h9 g9 T9 F9 N9 K9 X9 P9 D9
    (try k_lift K9)
    (try k_fold)
    k_steps
    all_goals (try k_data)
    (rename News h₀ _ _ _ => yN)
    exact hret _ _ (by assumption) (fun p hp => yN p (G8.sub p hp))

end Mine
end

section
open PySem PySem.W PySem.Spec PySem.Calls PyProof.Rows
set_option Elab.async false
set_option maxRecDepth 100000
set_option maxHeartbeats 8000000
namespace Mine
/-- a def with cells is called from nowhere: its body at wpC -/
theorem codeC_cellsN {prog : Program} {w : World} {A : Around} {R : Result → Shared → Prop} {s : Shared} {name : Str} {params : Arguments} {body : List Stmt} {scope : Scope}
    {pm cd doc : Value} {a : Addr} {o : Obj} {args : List Value} {binds : List (Str × Value)}
    (hroom : A.depth < recursionLimit) (ho : s.heap.get? a = some o) (hdata : o.data = .func (Calls.docDef name params body scope pm cd doc)) (hlim : s.heap.NoLimit) (hcd : s.heap.CodeRec cd name)
    (hbind : bindArgs (Calls.docDef name params body scope pm cd doc) ⟨args, []⟩ = pure binds)
    (hkind : ∀ x ∈ binds, scope.names.lookup x.1 = some .local ∨ (scope.names.lookup x.1 = some .cell ∧ ((cellsFrom (s.heap.objs.size + 1) scope.names []).lookup x.1).isSome = true))
    (hnd : ((cellsFrom 0 scope.names []).map (·.1)).Nodup)
    (h : ∀ h₁ tk cells, Fr s.heap s.heap.objs.size h₁ (bindL (envOfC name scope s.heap.objs.size a cd).kindOf binds fun _ => none) → News s.heap s.heap.objs.size h₁ cells →
      CellsAre (bindC (envOfC name scope s.heap.objs.size a cd).kindOf binds fun _ => none) (cellsFrom (s.heap.objs.size + 1) scope.names []) cells →
      wpC (model prog w) (A.deeper (envOfC name scope s.heap.objs.size a cd)) (execs body (envOfC name scope s.heap.objs.size a cd))
        (fun f s' => R (.ok (.ret (match f with | .ret v => v | _ => .none))) s')
        (fun e s' => wpAny (model prog w) (A.deeper (envOfC name scope s.heap.objs.size a cd)) (leaving (envOfC name scope s.heap.objs.size a cd) e)
          (fun _ s'' => R (.error e) s'') (fun e' s'' => R (.error e') s'') s')
        { s with heap := h₁, toks := tk })
    (hco : scope.isCoroutine = false) (hgen : scope.isGenerator = false) (hk : scope.kind = .function) :
    codeC (model prog w) A (.call (.ref a) ⟨args, []⟩) R s := by
  have hco' : (Calls.docDef name params body scope pm cd doc).scope.isCoroutine = false := hco
  have hgen' : (Calls.docDef name params body scope pm cd doc).scope.isGenerator = false := hgen
  refine codeC_of_tree ?_
  show wpC _ A.in1 (callAny (.ref a) ⟨args, []⟩) _ _ s
  simp only [callAny]
  refine wpC_bind (wpC_of (wpAny_load ho ?_))
  obtain ⟨c, oc, vs, tq, hc, hoc, hdc, hq⟩ := hcd
  subst hc
  simp only [hdata, callFunction, hco', hgen']
  refine wpC_bind (m := field (.ref c) 1) (wpC_of (wpAny_field hoc hdc hq ?_))
  refine wpC_bind (wpC_pure ?_)
  rw [hbind]
  refine wpC_bind (wpC_pure ?_)
  refine wpC_bind (wpC_of ?_)
  refine wpAny_newFunctionEnv_cells hk hkind fun env he s' X => ?_
  subst he
  refine wpC_bind (wpC_of (wpAny_enterFrame (hlim.keeps X.toInCall.keep) hroom ?_))
  obtain ⟨h₁, tk, rfl, _⟩ := X.done
  obtain ⟨cells, N, Y⟩ := Cl.news (h₀ := s.heap) (Nat.le_refl _) fun n c hm => ⟨X.cell n c (lookup_of_mem_nodup (cellsFrom_names scope.names 0 (s.heap.objs.size + 1) [] [] rfl ▸ hnd) hm), X.above n c hm⟩
  exact wpC_pure ⟨rfl, codeC_func (h h₁ tk cells ⟨X.toInCall.ns, X.toInCall.keep, X.toInCall.fresh⟩ N Y)⟩
end Mine
end

section
open PySem PySem.W PySem.Spec PySem.Calls PyProof.Rows PyProof.Rows.LCg
set_option Elab.async false
set_option maxRecDepth 100000
set_option maxHeartbeats 8000000
namespace Mine
/-- what is iterated with its places: pairs (place, item) -/
def EnSrc (prog : Program) (w : World) (A : Around) (h₀ : Heap) (L : Addr) (m : Str → Option Value) (news : List (Addr × Obj)) (n : Nat) (P : Nat → Value → Prop) (I : Addr) (s₁ : Shared) : Prop :=
  ∃ fp wr St Mid, WalksT prog w A I fp wr n (fun i vals => ∃ t x, P i x ∧ vals = #[.int i t, x]) St Mid ∧ St 0 s₁.heap ∧ (∀ b ∈ fp, h₀.get? b = none ∧ b ≠ L ∧ b < s₁.heap.objs.size) ∧ (∀ p ∈ news, p.1 ∉ fp) ∧ Fr h₀ L s₁.heap m ∧ News h₀ L s₁.heap news
section
variable {prog : Program} {w : World} {A : Around} {E : Value → Shared → Prop} {s : Shared} {h₀ : Heap} {L : Addr} {m : Str → Option Value} {env : Env} {news : List (Addr × Obj)}
theorem enSrc_str {x : Str} {t : Tok} {h' : Heap} (hh : A.handled = none) (F : Fr h₀ L s.heap m) (N : News h₀ L s.heap news) (he : IsEnum h' (s.heap.objs.size + 1) s.heap.objs.size 0 .none) (hit : h'.IsStrIter s.heap.objs.size (strIterType x) x t 0)
    (hsz : h'.objs.size = s.heap.objs.size + 2) (hk : ∀ b o, s.heap.get? b = some o → h'.get? b = some o) :
    EnSrc prog w A h₀ L m news x.cps.size (fun i v => ∃ c u, x.cps[i]? = some c ∧ v = .str ⟨#[c]⟩ u) (s.heap.objs.size + 1) { s with heap := h' } := by
  have hL : L < s.heap.objs.size := F.ns.lt
  have F' : Fr h₀ L h' m := F.keeps hk
  have N' : News h₀ L h' news := N.grown hk
  have side : ∀ b ∈ [s.heap.objs.size + 1, s.heap.objs.size], h₀.get? b = none ∧ b ≠ L ∧ b < h'.objs.size := fun b hb => by
    rw [hsz]
    rcases List.mem_cons.mp hb with rfl | hb
    · exact ⟨Heap.get?_none_of_le (Nat.le_trans F.above (Nat.le_of_lt (Nat.lt_succ_of_lt hL))), Nat.ne_of_gt (Nat.lt_succ_of_lt hL), Nat.lt_succ_self _⟩
    · rw [List.mem_singleton.mp hb]
      exact ⟨Heap.get?_none_of_le (Nat.le_trans F.above (Nat.le_of_lt hL)), Nat.ne_of_gt hL, Nat.lt_succ_of_lt (Nat.lt_succ_self _)⟩
  have off : ∀ p ∈ news, p.1 ∉ [s.heap.objs.size + 1, s.heap.objs.size] := fun p hp hb => by
    have hq := Heap.lt_size (N p hp).1
    rcases List.mem_cons.mp hb with e | hb
    · rw [e] at hq; exact absurd hq (Nat.not_lt.mpr (Nat.le_succ _))
    · rw [List.mem_singleton.mp hb] at hq; exact absurd hq (Nat.lt_irrefl _)
  cases ha : x.cps.all (· < 128)
  · have hit' : h'.IsStrIter s.heap.objs.size "str_iterator" x t 0 := by simpa [strIterType, ha] using hit
    exact ⟨_, _, _, _, WalksT.enumerateD (Draws.strWide (A := A.in1) hh s.heap.objs.size x t) _ (Nat.succ_ne_self _) (fun hm => Nat.succ_ne_self _ (List.mem_singleton.mp hm)) (by simp), ⟨⟨_, he⟩, hit'⟩, side, off, F', N'⟩
  · have hit' : h'.IsStrIter s.heap.objs.size "str_ascii_iterator" x t 0 := by simpa [strIterType, ha] using hit
    exact ⟨_, _, _, _, WalksT.enumerateD (Draws.strAscii (A := A.in1) hh s.heap.objs.size x t) _ (Nat.succ_ne_self _) (fun hm => Nat.succ_ne_self _ (List.mem_singleton.mp hm)) (by simp), ⟨⟨_, he⟩, hit'⟩, side, off, F', N'⟩
theorem en_block {elt iter : Expr} {tests : List Expr} {a b : Str} {pa pb tp : Pos} {kk : Nat} {scope : Scope} {cl : List (Str × Addr)} {pos : Pos} {s₂ : Shared} {I : Addr} {n : Nat} {P : Nat → Value → Prop} {G : Nat → List Value → Prop}
    {RR : Value → Addr → Result → Shared → Prop} (Body : Env → Value → (Value → Shared → Prop) → (Shared → Prop) → Shared → Prop)
    (hloop : ∀ (env' : Env) (it acc : Value) (R : Result → Shared → Prop) (J : Nat → Shared → Prop), (∀ n s, J n s → wpAny (model prog w) A (pyNext it) (fun r s₁ => match r with
        | none => R (.ok .next) s₁
        | some v => wpAny (model prog w) A (letOwnedTupleGo (.Tuple [.Name a pa, .Name b pb] kk tp) it v) (fun _ s₀ => wpAny (model prog w) A (assign (.Tuple [.Name a pa, .Name b pb] kk tp) env' v) (fun _ s₂ =>
            Body env' acc (notedBy (model prog w) A env' fun e s' => R (.error e) s') (fun s₅ => ∃ m, m < n ∧ J m s₅) s₂)
          (notedBy (model prog w) A env' fun e s' => R (.error e) s') s₀) (notedBy (model prog w) A env' fun e s' => R (.error e) s') s₁) (notedBy (model prog w) A env' fun e s' => R (.error e) s') s) →
      ∀ n s, J n s → codeAny (model prog w) A (.compLoop (.ListComp elt [⟨.Tuple [.Name a pa, .Name b pb] kk tp, iter, tests, 0⟩] scope pos) 0 it acc env') R s)
    (hh : A.handled = none) (src : EnSrc prog w A h₀ L m news n P I s₂) (hn : n ≤ sizeLine)
    (hcell : ∀ y ∈ scope.names, y.2 ≠ .cell) (hkind : scope.kind = .function) (hxa : scope.names.lookup a = some .local) (hxb : scope.names.lookup b = some .local) (hab : ¬ a = b)
    (hG0 : G 0 [])
    (hbody : ∀ (i : Nat) (x : Value) (ti : Tok) (ys : List Value) (own : List (Addr × Obj)) (C D : Addr) (oC : Obj) (m₂ : Str → Option Value) (h : Heap) (tk : Nat) (En : Value → Shared → Prop) (K : Shared → Prop), i < n → P i x → G i ys → ys.length ≤ i →
      NsObj oC m₂ → m₂ a = some (.int i ti) → m₂ b = some x → Fr h₀ L h m → News h₀ L h ((C, oC) :: (D, lst ys) :: (own ++ news)) → C ≠ D → (∀ p ∈ own ++ news, p.1 ≠ C ∧ p.1 ≠ D) →
      (∀ ys' h' tk', G (i + 1) ys' → ys'.length ≤ ys.length + 1 → Fr h₀ L h' m → News h₀ L h' ((C, oC) :: (D, lst ys') :: (own ++ news)) → K { s₂ with heap := h', toks := tk' }) →
      Body (compEnvC scope cl C env) (.ref D) En K { s₂ with heap := h, toks := tk })
    (hRR : ∀ D C h tk m' ys, Fr h₀ L h m → News h₀ L h ((D, lst ys) :: news) → Off1 D news → h.Ns C m' → h₀.get? C = none → h₀.get? D = none → C ≠ L → D ≠ L → C ≠ D → (∀ p ∈ news, p.1 ≠ C) → G n ys → RR (.ref D) C (.ok .next) { s₂ with heap := h, toks := tk }) :
    wpAny (model prog w) A (pyIter (.ref I)) (fun it s₂ => wpAny (model prog w) A (newList []) (fun acc s₃ => wpAny (model prog w) A (newFunctionEnv scope env.globals cl [] env.qual none .none (some env)) (fun cenv s₄ =>
      codeAny (model prog w) A (.compStart (.ListComp elt [⟨.Tuple [.Name a pa, .Name b pb] kk tp, iter, tests, 0⟩] scope pos) 0 it acc { cenv with scope := relabel scope env }) (RR acc cenv.locals) s₄) E s₃) E s₂) E s₂ := by
  obtain ⟨fp, wr, St, Mid, W, hst, hfp, off, F, N⟩ := src
  refine W.self 0 _ _ _ hst ?_
  refine wpAny_newObj_type (wpAny_newFunctionEnv hcell (by intro y hy; simp at hy) (fun h₁ hns₁ hsb₁ => ?_) hkind)
  dsimp only at hns₁ hsb₁ ⊢
  generalize hH2 : s₂.heap.push { cls := .type "list", dict := none, data := .seq ([] : List Value).toArray } = H2 at hns₁ hsb₁ ⊢
  have hC : H2.objs.size = s₂.heap.objs.size + 1 := by rw [← hH2, Heap.size_push]
  have hDC : s₂.heap.objs.size ≠ H2.objs.size := by rw [hC]; exact Nat.ne_of_lt (Nat.lt_succ_self _)
  have below : ∀ b, b < s₂.heap.objs.size → b ≠ H2.objs.size ∧ b ≠ s₂.heap.objs.size := fun b hb => ⟨by rw [hC]; exact Nat.ne_of_lt (Nat.lt_succ_of_lt hb), Nat.ne_of_lt hb⟩
  have old : ∀ b o, s₂.heap.get? b = some o → h₁.get? b = some o := fun b o e => hsb₁.extBut b o (below b (Heap.lt_size e)).1 (Heap.get?_push_of_some _ (hH2 ▸ Heap.get?_push_of_some _ e))
  have hacc : h₁.get? s₂.heap.objs.size = some (lst []) := hsb₁.extBut _ _ hDC (Heap.get?_push_of_some _ (hH2 ▸ Heap.get?_push_size _ rfl))
  have hst₁ : St 0 h₁ := W.frame _ _ _ hst fun b _ o e => old b o e
  have fresh : ∀ a, s₂.heap.objs.size ≤ a → s₂.heap.get? a = none := fun a ha => by
    cases e : s₂.heap.get? a with
    | none => rfl
    | some o' => exact absurd (Heap.lt_size e) (Nat.not_lt.mpr ha)
  have fresh₀ : ∀ a, s₂.heap.objs.size ≤ a → h₀.get? a = none := fun a ha => by
    cases e : h₀.get? a with
    | none => rfl
    | some o' => have := F.keep a o' e; rw [fresh a ha] at this; cases this
  have hD₀ : h₀.get? s₂.heap.objs.size = none := fresh₀ _ (Nat.le_refl _)
  have hC₀ : h₀.get? H2.objs.size = none := fresh₀ _ (by rw [hC]; exact Nat.le_succ _)
  have hLlt : L < s₂.heap.objs.size := F.ns.lt
  have hDL : s₂.heap.objs.size ≠ L := Ne.symm (below L hLlt).2
  have hCL : H2.objs.size ≠ L := Ne.symm (below L hLlt).1
  have hCf : H2.objs.size ∉ fp := fun hm => (below _ (hfp _ hm).2.2).1 rfl
  have hDf : s₂.heap.objs.size ∉ fp := fun hm => (below _ (hfp _ hm).2.2).2 rfl
  have hLf : L ∉ fp := fun hm => (hfp _ hm).2.1 rfl
  have wrf : ∀ {b}, b ∉ fp → b ∉ wr := fun hb hm => hb (W.sub _ hm)
  have offN : ∀ p ∈ news, p.1 ≠ H2.objs.size ∧ p.1 ≠ s₂.heap.objs.size := fun p hp => below _ (Heap.lt_size (N p hp).1)
  have off1 : Off1 s₂.heap.objs.size news := Off3.one (I := H2.objs.size) (C := H2.objs.size) (Off3.of fun p hp => ⟨(offN p hp).1, (offN p hp).1, (offN p hp).2⟩)
  have old₀ : ∀ {b o}, h₀.get? b = some o → b ∉ fp := fun e hm => by rw [(hfp _ hm).1] at e; cases e
  have loop : ∀ s₃ : Shared, s₃ = { s₂ with heap := h₁, toks := s₂.toks + ([] : List (Str × Value)).length } →
      codeAny (model prog w) A (.compLoop (.ListComp elt [⟨.Tuple [.Name a pa, .Name b pb] kk tp, iter, tests, 0⟩] scope pos) 0 (.ref I) (.ref s₂.heap.objs.size) (compEnvC scope cl H2.objs.size env))
        (RR (.ref s₂.heap.objs.size) H2.objs.size) s₃ := by
    rintro s₃ rfl
    refine hloop _ _ _ _
      (fun k s' => ∃ h' tk i ys m', s' = { s₂ with heap := h', toks := tk } ∧ i ≤ n ∧ k = n + 1 - i ∧ ys.length ≤ i ∧ St i h' ∧ Fr h₀ L h' m ∧ h'.Ns H2.objs.size m' ∧ News h₀ L h' ((s₂.heap.objs.size, lst ys) :: news) ∧ G i ys) ?_ (n + 1) _
      ⟨h₁, _, 0, [], _, rfl, Nat.zero_le _, rfl, Nat.le_refl _, hst₁, F.keeps old, hns₁, fun p hp => ?_, hG0⟩
    · rintro k s' ⟨h', tk, i, ys, m', rfl, hi, rfl, hyl, hst', F', hn', N', hG⟩
      by_cases hlt : i < n
      · refine W.item i _ _ _ hlt hst' fun T vals h₂ tk₂ hP hTs hT hMid hk₂ => ?_
        refine W.go _ _ _ i T _ _ _ hMid fun h₃ hst₃ hk₃ => ?_
        obtain ⟨ti, x, hPx, rfl⟩ := hP
        have hT₃ : h₃.IsTuple T #[.int i ti, x] := hT.at fun o e => hk₃ T o (W.apart i T _ hMid) e
        have up₃ : ∀ c o, c ∉ fp → h'.get? c = some o → h₃.get? c = some o := fun c o hc e => hk₃ c o (wrf hc) (hk₂ c o (wrf hc) e)
        refine kcp_assign (env := compEnvC scope cl H2.objs.size env) hh hT₃ (lookup_relabel_local hxa) (lookup_relabel_local hxb) (by simp [compEnvC, relabel, hkind]) (hn'.at' fun o e => up₃ _ o hCf e) fun h₄ tk₄ hn₄ hs₄ => ?_
        have up : ∀ c o, c ∉ fp → c ≠ H2.objs.size → h'.get? c = some o → h₄.get? c = some o := fun c o h1 h2 e => hs₄ c o h2 (up₃ c o h1 e)
        have hst₄ : St (i + 1) h₄ := W.frame _ _ _ hst₃ fun b hb o e => hs₄ b o (fun q => hCf (by have q' : b = H2.objs.size := q; rw [← q']; exact hb)) e
        obtain ⟨oC, heC, hoC⟩ := ns_obj hn₄
        have F₄ : Fr h₀ L h₄ m := ⟨F'.ns.at' fun o e => up _ o hLf (Ne.symm hCL) e, fun c o e => up c o (old₀ e) (fun q => by rw [q, hC₀] at e; cases e) (F'.keep c o e), F'.above⟩
        have Nown : News h₀ L h₄ (PyProof.Rows.ownOf h₀ fp h₄) := news_ownOf hLf
        have N₄ : News h₀ L h₄ ((H2.objs.size, oC) :: (s₂.heap.objs.size, lst ys) :: (PyProof.Rows.ownOf h₀ fp h₄ ++ news)) := fun q hq => by
          rcases List.mem_cons.mp hq with rfl | hq
          · exact ⟨heC, hCL, hC₀⟩
          · rcases List.mem_cons.mp hq with rfl | hq
            · exact ⟨up _ _ hDf hDC (N' _ (.head _)).1, hDL, hD₀⟩
            · rcases List.mem_append.mp hq with hq | hq
              · exact Nown q hq
              · exact ⟨up _ _ (off q hq) (offN q hq).1 (N' q (.tail _ hq)).1, (N' q (.tail _ hq)).2⟩
        refine hbody i x ti ys (PyProof.Rows.ownOf h₀ fp h₄) H2.objs.size s₂.heap.objs.size oC _ h₄ _ _ _ hlt hPx hG hyl hoC (by simp [hab]) (by simp) F₄ N₄ (Ne.symm hDC) (fun p hp => ?_) (fun ys' h₅ tk₅ hG' hl' F₅ N₅ => ?_)
        · rcases List.mem_append.mp hp with hp | hp
          · exact ⟨fun q => hCf (q ▸ ownOf_sub p hp), fun q => hDf (q ▸ ownOf_sub p hp)⟩
          · exact offN p hp
        · have zC := (N₅ (H2.objs.size, oC) List.mem_cons_self).1
          refine ⟨n + 1 - (i + 1), by omega, h₅, tk₅, i + 1, ys', _, rfl, hlt, rfl, Nat.le_trans hl' (Nat.succ_le_succ hyl), ?_, F₅, hoC.ns zC, fun q hq => ?_, hG'⟩
          · refine W.frame _ _ _ hst₄ fun b hb o e => ?_
            exact (N₅ (b, o) (.tail _ (.tail _ (List.mem_append_left _ (mem_ownOf hb (hfp b hb).1 e))))).1
          · rcases List.mem_cons.mp hq with rfl | hq
            · exact N₅ _ (.tail _ (.head _))
            · exact N₅ _ (.tail _ (.tail _ (List.mem_append_right _ hq)))
      · have hin : i = n := Nat.le_antisymm hi (Nat.not_lt.mp hlt)
        subst hin
        refine W.done _ _ _ hst' fun h₂ tk₂ hk₂ => ?_
        have F₂ : Fr h₀ L h₂ m := ⟨F'.ns.at' fun o e => hk₂ _ o (wrf hLf) e, fun c o e => hk₂ c o (wrf (old₀ e)) (F'.keep c o e), F'.above⟩
        refine hRR _ _ h₂ tk₂ _ ys F₂ (fun p hp => ⟨hk₂ _ _ (wrf ?_) (N' p hp).1, (N' p hp).2⟩) off1 (hn'.at' fun o e => hk₂ _ o (wrf hCf) e) hC₀ hD₀ hCL hDL (Ne.symm hDC) (fun p hp => (offN p hp).1) hG
        rcases List.mem_cons.mp hp with rfl | hp
        · exact hDf
        · exact off p hp
    · rcases List.mem_cons.mp hp with rfl | hp
      · exact ⟨hacc, hDL, hD₀⟩
      · exact ⟨old _ _ (N p hp).1, (N p hp).2⟩
  exact codeAny_compStart_list (loop _ rfl) (W.self 0 _ _ _ hst₁ (loop _ rfl))
end
end Mine
end

section
open PySem PySem.W PySem.Spec PySem.Calls PyProof.Rows PyProof.Rows.LCg
set_option Elab.async false
set_option maxRecDepth 100000
set_option maxHeartbeats 8000000
namespace Mine
/-- the end of a turn: nothing of the ledger is lost -/
def EnEnd (h₀ : Heap) (L : Addr) (m : Str → Option Value) (nw : List (Addr × Obj)) (G : Value → Prop) (s : Shared) (y : Value) (s' : Shared) : Prop :=
  ∃ h' tk', s' = { s with heap := h', toks := tk' } ∧ Fr h₀ L h' m ∧ News h₀ L h' nw ∧ G y
def EnAll (prog : Program) (w : World) (A : Around) (h₀ : Heap) (L : Addr) (m : Str → Option Value) (env : Env) (elt : Expr) (a b : Str) (scope : Scope) (cl : List (Str × Addr)) (Fin : Shared → Addr → List Value → Heap → Nat → List (Addr × Obj) → Prop) (xv : Value) (s₁ : Shared) : Prop :=
  ∃ (I : Addr) (n : Nat) (P : Nat → Value → Prop) (news : List (Addr × Obj)) (G : Nat → List Value → Prop), xv = .ref I ∧ A.handled = none ∧ EnSrc prog w A h₀ L m news n P I s₁ ∧ n ≤ sizeLine ∧ G 0 [] ∧
    (∀ (i : Nat) (x : Value) (ti : Tok) (ys : List Value) (own : List (Addr × Obj)) (C D : Addr) (oC : Obj) (m₂ : Str → Option Value) (h : Heap) (tk : Nat) (E' : Value → Shared → Prop), i < n → P i x → G i ys →
      NsObj oC m₂ → m₂ a = some (.int i ti) → m₂ b = some x → Fr h₀ L h m → News h₀ L h ((C, oC) :: (D, lst ys) :: (own ++ news)) → (@Ne Nat C D) → (∀ p ∈ own ++ news, p.1 ≠ C ∧ p.1 ≠ D) →
      wpAny (model prog w) A (eval elt (compEnvC scope cl C env)) (EnEnd h₀ L m ((C, oC) :: (D, lst ys) :: (own ++ news)) (fun y => G (i + 1) (ys ++ [y])) { s₁ with heap := h, toks := tk }) E' { s₁ with heap := h, toks := tk }) ∧
    ∀ ys D h tk, G n ys → News h₀ L h ((D, lst ys) :: news) → (∀ p ∈ news, p.1 ≠ D) → Fin s₁ D ys h tk news
def EnIf (prog : Program) (w : World) (A : Around) (h₀ : Heap) (L : Addr) (m : Str → Option Value) (env : Env) (c elt : Expr) (a b : Str) (scope : Scope) (cl : List (Str × Addr)) (Fin : Shared → Addr → List Value → Heap → Nat → List (Addr × Obj) → Prop) (xv : Value) (s₁ : Shared) : Prop :=
  ∃ (I : Addr) (n : Nat) (P : Nat → Value → Prop) (news : List (Addr × Obj)) (G : Nat → List Value → Prop), xv = .ref I ∧ A.handled = none ∧ EnSrc prog w A h₀ L m news n P I s₁ ∧ n ≤ sizeLine ∧ G 0 [] ∧
    (∀ (i : Nat) (x : Value) (ti : Tok) (ys : List Value) (own : List (Addr × Obj)) (C D : Addr) (oC : Obj) (m₂ : Str → Option Value) (h : Heap) (tk : Nat) (E' : Value → Shared → Prop), i < n → P i x → G i ys →
      NsObj oC m₂ → m₂ a = some (.int i ti) → m₂ b = some x → Fr h₀ L h m → News h₀ L h ((C, oC) :: (D, lst ys) :: (own ++ news)) → (@Ne Nat C D) → (∀ p ∈ own ++ news, p.1 ≠ C ∧ p.1 ≠ D) →
      wpAny (model prog w) A (PySem.isTrue c (compEnvC scope cl C env) (eval c (compEnvC scope cl C env))) (fun okb s₃ => if okb = true then
        wpAny (model prog w) A (eval elt (compEnvC scope cl C env)) (EnEnd h₀ L m ((C, oC) :: (D, lst ys) :: (own ++ news)) (fun y => G (i + 1) (ys ++ [y])) { s₁ with heap := h, toks := tk }) E' s₃
        else EnEnd h₀ L m ((C, oC) :: (D, lst ys) :: (own ++ news)) (fun _ => G (i + 1) ys) { s₁ with heap := h, toks := tk } .none s₃) E' { s₁ with heap := h, toks := tk }) ∧
    ∀ ys D h tk, G n ys → News h₀ L h ((D, lst ys) :: news) → (∀ p ∈ news, p.1 ≠ D) → Fin s₁ D ys h tk news
section
variable {prog : Program} {w : World} {A : Around} {E : Value → Shared → Prop} {s : Shared} {h₀ : Heap} {L : Addr} {m : Str → Option Value} {env : Env}
theorem Off1.all {D : Addr} : ∀ {l : List (Addr × Obj)}, Off1 D l → ∀ p ∈ l, p.1 ≠ D
  | [], _, _, h => nomatch h
  | _ :: _, x, p, h => by
    rcases List.mem_cons.mp h with rfl | h
    · exact x.1
    · exact Off1.all x.2 p h
theorem en_append {ys : List Value} {y : Value} {n : Nat} {C D : Addr} {oC : Obj} {rest : List (Addr × Obj)} {K : Shared → Prop} {h : Heap} (hsz : ys.length ≤ n) (hn : n ≤ sizeLine) (hd : s.heap = h) (F : Fr h₀ L h m) (N : News h₀ L h ((C, oC) :: (D, lst ys) :: rest)) (hCD : C ≠ D) (off : ∀ p ∈ rest, p.1 ≠ D)
    (hK : ∀ h' tk', Fr h₀ L h' m → News h₀ L h' ((C, oC) :: (D, lst (ys ++ [y])) :: rest) → K { s with heap := h', toks := tk' }) :
    wpAny (model prog w) A (call (.builtin "list.append") [.ref D, y]) (fun _ s₅ => K s₅) E s := by
  subst hd
  have zD := N (D, lst ys) (.tail _ (.head _))
  refine append_at (hsz := by show ys.toArray.size ≤ sizeLine; rw [List.size_toArray]; exact Nat.le_trans hsz hn) zD.1 fun h₆ hs₆ hD₆ => ?_
  refine hK h₆ _ (F.change hs₆ zD.2.1 zD.2.2) (fun q hq => ?_)
  rcases List.mem_cons.mp hq with rfl | hq
  · exact ⟨hs₆.extBut _ _ hCD (N _ (.head _)).1, (N _ (.head _)).2⟩
  rcases List.mem_cons.mp hq with rfl | hq
  · exact ⟨hD₆.trans (congrArg some (lst_snoc ys y)), zD.2⟩
  · exact ⟨hs₆.extBut _ _ (off q hq) (N q (.tail _ (.tail _ hq))).1, (N q (.tail _ (.tail _ hq))).2⟩
theorem ListComp_En {elt iter : Expr} {a b : Str} {pa pb tp : Pos} {kk : Nat} {scope : Scope} {cl : List (Str × Addr)} {pos : Pos} {Q : Value → Shared → Prop} (_F₀ : Fr h₀ L s.heap m)
    (hclos : closureFor scope env = pure cl) (hcell : ∀ y ∈ scope.names, y.2 ≠ .cell) (hkind : scope.kind = .function)
    (hnames : ∀ y ∈ scope.names, y.2 = .local → scope.names.lookup y.1 = some .local) (hxa : scope.names.lookup a = some .local) (hxb : scope.names.lookup b = some .local) (hab : ¬ a = b)
    (h : wpAny (model prog w) A (eval iter env) (EnAll prog w A h₀ L m env elt a b scope cl (fun s₁ D _ h tk _ => Fr h₀ L h m → Q (.ref D) { s₁ with heap := h, toks := tk })) E s)
    (hs : ∀ x, foldedSetIterable iter env x = pure x) :
    wpAny (model prog w) A (eval (.ListComp elt [⟨.Tuple [.Name a pa, .Name b pb] kk tp, iter, [], 0⟩] scope pos) env) Q E s := by
  rw [eval_ListComp]
  refine wpAny_comprehension_free (use := none) rfl hs hclos hkind hnames (wpAny_mono h (fun xv s₁ h₁ => ?_) fun _ _ e => e)
  obtain ⟨I, n, P, news, G, rfl, hh, src, hn, hG0, turn, fin⟩ := h₁
  refine en_block (fun env' acc En K s => wpAny (model prog w) A (eval elt env') (fun x s₄ => wpAny (model prog w) A (call (.builtin "list.append") [acc, x]) (fun _ s₅ => K s₅) En s₄) En s)
    (fun env' it acc R J tn n s hJ => kcp_loop J tn n hJ) hh src hn hcell hkind hxa hxb hab hG0 ?_ ?_
  · intro i x ti ys own C D oC m₂ h tk En K hi hP hG hyl hoC ha hb F N hCD off hK
    refine wpAny_mono (turn i x ti ys own C D oC m₂ h tk En hi hP hG hoC ha hb F N hCD off) (fun y s₄ h₄ => ?_) fun _ _ e => e
    obtain ⟨h', tk', rfl, F', N', hG'⟩ := h₄
    exact en_append (n := n) (Nat.le_trans hyl (Nat.le_of_lt hi)) hn rfl F' N' hCD (fun p hp => (off p hp).2) fun h₆ tk₆ F₆ N₆ => hK _ h₆ tk₆ hG' (by simp) F₆ N₆
  · intro D C h tk m' ys F' N' o1 hn' hC₀ hD₀ hCL hDL hCD offC hG
    refine ⟨m', hn', fun h'' hs'' => fin ys D h'' tk hG (fun p hp => ?_) (Off1.all o1) (F'.change hs'' hCL hC₀)⟩
    refine ⟨hs''.extBut _ _ ?_ (N' p hp).1, (N' p hp).2⟩
    rcases List.mem_cons.mp hp with rfl | hp
    · exact Ne.symm hCD
    · exact offC p hp
theorem Assign_En {elt iter c : Expr} {a b y : Str} {pa pb tp py : Pos} {kk : Nat} {scope : Scope} {cl : List (Str × Addr)} {pos spos : Pos} {Q : Flow → Shared → Prop} (_F₀ : Fr h₀ L s.heap m) (hLe : env.locals = L)
    (hsw : swapsWith (.ListComp elt [⟨.Tuple [.Name a pa, .Name b pb] kk tp, iter, [c], 0⟩] scope pos) (some (.Name y py)) spos.line env = pure true)
    (hclos : closureFor scope env = pure cl) (hcell : ∀ z ∈ scope.names, z.2 ≠ .cell) (hkind : scope.kind = .function)
    (hnames : ∀ z ∈ scope.names, z.2 = .local → scope.names.lookup z.1 = some .local) (hxa : scope.names.lookup a = some .local) (hxb : scope.names.lookup b = some .local) (hab : ¬ a = b)
    (hy : env.kindOf y = some .local) (hp : (env.scope.kind == .class || (env.scope.kind == .module && env.locals != env.globals)) = false)
    (h : wpAny (model prog w) A (eval iter env) (EnIf prog w A h₀ L m env c elt a b scope cl (fun s₁ D _ h tk _ => Fr h₀ L h (fun z => if z = y then some (.ref D) else m z) → Q .next { s₁ with heap := h, toks := tk })) E s)
    (hs : ∀ x, foldedSetIterable iter env x = pure x) :
    wpAny (model prog w) A (exec (.Assign [.Name y py] (.ListComp elt [⟨.Tuple [.Name a pa, .Name b pb] kk tp, iter, [c], 0⟩] scope pos) spos) env) Q E s := by
  subst hLe
  rw [exec_Assign_Name_used _ _ _ _ hsw]
  refine wpAny_bind (wpAny_standAt (wpAny_bind ?_))
  show wpAny _ A (do let _ ← comprehension (.ListComp elt [⟨.Tuple [.Name a pa, .Name b pb] kk tp, iter, [c], 0⟩] scope pos) scope env _ (newList []) false (eval iter env) (some (assign (.Name y py) env))) _ _ s
  refine wpAny_bind (wpAny_mono (wpAny_comprehension_free (use := some (assign (.Name y py) env)) (Q := fun _ s' => Q .next s') rfl hs hclos hkind hnames
    (wpAny_mono h (fun xv s₁ h₁ => ?_) fun _ _ e => e)) (fun _ s' hq => wpAny_pure (wpAny_pure hq)) fun _ _ e => e)
  obtain ⟨I, n, P, news, G, rfl, hh, src, hn, hG0, turn, fin⟩ := h₁
  refine en_block (fun env' acc En K s => wpAny (model prog w) A (PySem.isTrue c env' (eval c env')) (fun ok s₃ => if ok = true then wpAny (model prog w) A (eval elt env') (fun x s₄ => wpAny (model prog w) A (call (.builtin "list.append") [acc, x]) (fun _ s₅ => K s₅) En s₄) En s₃ else K s₃) En s)
    (fun env' it acc R J tn n s hJ => kct_loop J tn n hJ) hh src hn hcell hkind hxa hxb hab hG0 ?_ ?_
  · intro i x ti ys own C D oC m₂ h tk En K hi hP hG hyl hoC ha hb F N hCD off hK
    refine wpAny_mono (turn i x ti ys own C D oC m₂ h tk En hi hP hG hoC ha hb F N hCD off) (fun okb s₃ h₃ => ?_) fun _ _ e => e
    cases okb with
    | false =>
      simp only [Bool.false_eq_true, if_false] at h₃ ⊢
      obtain ⟨h', tk', rfl, F', N', hG'⟩ := h₃
      exact hK ys h' tk' hG' (Nat.le_succ _) F' N'
    | true =>
      simp only [if_true] at h₃ ⊢
      refine wpAny_mono h₃ (fun y s₄ h₄ => ?_) fun _ _ e => e
      obtain ⟨h', tk', rfl, F', N', hG'⟩ := h₄
      exact en_append (n := n) (Nat.le_trans hyl (Nat.le_of_lt hi)) hn rfl F' N' hCD (fun p hp => (off p hp).2) fun h₆ tk₆ F₆ N₆ => hK _ h₆ tk₆ hG' (by simp) F₆ N₆
  · intro D C h' tk m' ys F' N' o1 hn' hC₀ hD₀ hCL hDL hCD offC hG
    show wpAny _ A (assign (.Name y py) env (.ref D)) _ _ _
    refine wpAny_assign_Name (wpAny_storeName_local hy F'.ns (fun h₂ hn₂ hs₂ => ?_) hp)
    have hL₀ : h₀.get? env.locals = none := Heap.get?_none_of_le F'.above
    have F₂ : Fr h₀ env.locals h₂ (fun z => if z = y then some (.ref D) else m z) := ⟨hn₂, fun b o e => hs₂.extBut b o (fun q => by rw [q, hL₀] at e; cases e) (F'.keep b o e), F'.above⟩
    refine ⟨m', hn'.sameBut hs₂ hCL, fun h'' hs'' => fin ys D h'' _ hG (fun p hp => ?_) (Off1.all o1) (F₂.change hs'' hCL hC₀)⟩
    have z : h₂.get? p.1 = some p.2 := hs₂.extBut _ _ (N' p hp).2.1 (N' p hp).1
    refine ⟨hs''.extBut _ _ ?_ z, (N' p hp).2⟩
    rcases List.mem_cons.mp hp with rfl | hp
    · exact Ne.symm hCD
    · exact offC p hp
end
end Mine
end

section
open PySem PySem.W PySem.Spec PySem.Calls PyProof.Rows
set_option Elab.async false
set_option maxRecDepth 100000
set_option maxHeartbeats 8000000
namespace Mine
theorem wpC_cut1 {M : Model} {A : Around} {E : Value → Shared → Prop} {s : Shared} {env : Env} {a : Stmt} {l : List Stmt} {Q : Flow → Shared → Prop} (P : Shared → Prop)
    (h : wpAny M A (execs [a] env) (fun f s' => f = .next ∧ P s') E s) (k : ∀ s', P s' → wpC M A (execs l env) Q E s') : wpC M A (execs (a :: l) env) Q E s :=
  wpC_execs1 (wpAny_mono h (fun f s' h' => by obtain ⟨rfl, h'⟩ := h'; exact k s' h') fun _ _ x => x)
theorem wpC_cut2 {M : Model} {A : Around} {E : Value → Shared → Prop} {s : Shared} {env : Env} {a b : Stmt} {l : List Stmt} {Q : Flow → Shared → Prop} (P : Shared → Prop)
    (h : wpAny M A (execs [a, b] env) (fun f s' => f = .next ∧ P s') E s) (k : ∀ s', P s' → wpC M A (execs l env) Q E s') : wpC M A (execs (a :: b :: l) env) Q E s :=
  wpC_execs2 (wpAny_mono h (fun f s' h' => by obtain ⟨rfl, h'⟩ := h'; exact k s' h') fun _ _ x => x)
theorem wpC_cut3 {M : Model} {A : Around} {E : Value → Shared → Prop} {s : Shared} {env : Env} {a b c : Stmt} {l : List Stmt} {Q : Flow → Shared → Prop} (P : Shared → Prop)
    (h : wpAny M A (execs [a, b, c] env) (fun f s' => f = .next ∧ P s') E s) (k : ∀ s', P s' → wpC M A (execs l env) Q E s') : wpC M A (execs (a :: b :: c :: l) env) Q E s :=
  wpC_execs3 (wpAny_mono h (fun f s' h' => by obtain ⟨rfl, h'⟩ := h'; exact k s' h') fun _ _ x => x)
/-- the cell put first -/
theorem cell_first {h₀ h : Heap} {L c : Addr} {oc : Obj} {big : Led} (N : News h₀ L h big) (hc : (c, oc) ∈ big) :
    News h₀ L h ((c, oc) :: big.filter fun p => decide (p.1 ≠ c)) ∧ (∀ p ∈ big.filter fun p => decide (p.1 ≠ c), p.1 ≠ c) ∧ ∀ p, Fresh [(c, oc)] big p → p ∈ big.filter fun p => decide (p.1 ≠ c) := by
  refine ⟨fun p hp => ?_, fun p hp => of_decide_eq_true (List.mem_filter.mp hp).2, fun p hp => List.mem_filter.mpr ⟨hp.1, decide_eq_true (hp.2 (c, oc) (.head _)).symm⟩⟩
  rcases List.mem_cons.mp hp with rfl | hp
  · exact N _ hc
  · exact N p (List.mem_filter.mp hp).1
/-- after the items are built -/
def LwA (h₀ : Heap) (L l : Addr) (s₁ s' : Shared) : Prop :=
  ∃ h tk m nx oc li vs xs, s' = { s₁ with heap := h, toks := tk } ∧ Fr h₀ L h m ∧ News h₀ L h ((L + 1, oc) :: nx) ∧ oc.data = .cell none ∧ (∀ p ∈ nx, p.1 ≠ L + 1) ∧ m (Str.ofString "script") = some (.ref l) ∧ m (Str.ofString "items") = some (.ref li) ∧
    (li, lstO vs) ∈ nx ∧ ItsR (· ∈ nx) xs vs ∧ Items xs
/-- after the texts are written -/
def LwB (h₀ : Heap) (L l : Addr) (s₁ s' : Shared) : Prop :=
  ∃ h tk m nx oc li vs xs ld t1 t2, s' = { s₁ with heap := h, toks := tk } ∧ Fr h₀ L h m ∧ News h₀ L h ((L + 1, oc) :: nx) ∧ oc.data = .cell none ∧ (∀ p ∈ nx, p.1 ≠ L + 1) ∧ m (Str.ofString "script") = some (.ref l) ∧ m (Str.ofString "items") = some (.ref li) ∧
    (li, lstO vs) ∈ nx ∧ ItsR (· ∈ nx) xs vs ∧ Items xs ∧ m (Str.ofString "text") = some (.str (SS (joinC (wrs xs))) t1) ∧ m (Str.ofString "flat") = some (.str (SS (joinC (fls xs))) t2) ∧ m (Str.ofString "due") = some (.ref ld) ∧ (ld, lstO []) ∈ nx
/-- after what is due is told -/
def LwC (h₀ : Heap) (L l : Addr) (s₁ s' : Shared) : Prop :=
  ∃ h tk m nx oc xs ld us t1 t2, s' = { s₁ with heap := h, toks := tk } ∧ Fr h₀ L h m ∧ News h₀ L h ((L + 1, oc) :: nx) ∧ oc.data = .cell none ∧ (∀ p ∈ nx, p.1 ≠ L + 1) ∧ m (Str.ofString "script") = some (.ref l) ∧
    Items xs ∧ m (Str.ofString "text") = some (.str (SS (joinC (wrs xs))) t1) ∧ m (Str.ofString "flat") = some (.str (SS (joinC (fls xs))) t2) ∧ m (Str.ofString "due") = some (.ref ld) ∧ (ld, lstO us) ∈ nx ∧ StrsAre us ((tolds xs).map SS)
/-- after start is stored in its cell -/
def LwD (h₀ : Heap) (L l : Addr) (s₁ s' : Shared) : Prop :=
  ∃ h tk m nx oc xs ld us t1 t2 st t3, s' = { s₁ with heap := h, toks := tk } ∧ Fr h₀ L h m ∧ News h₀ L h ((L + 1, oc) :: nx) ∧ oc.data = .cell (some (.int st t3)) ∧ 0 ≤ st ∧ st < 7 ∧ (∀ p ∈ nx, p.1 ≠ L + 1) ∧ m (Str.ofString "script") = some (.ref l) ∧
    Items xs ∧ m (Str.ofString "text") = some (.str (SS (joinC (wrs xs))) t1) ∧ m (Str.ofString "flat") = some (.str (SS (joinC (fls xs))) t2) ∧ m (Str.ofString "due") = some (.ref ld) ∧ (ld, lstO us) ∈ nx ∧ StrsAre us ((tolds xs).map SS)
/-- between the turns of the loop that tells what is due -/
def DueJ (xs : List It) (news : Led) (m₀ : Str → Option Value) (i : Nat) (m : Str → Option Value) (nx : Led) : Prop :=
  Grown news nx ∧ (∀ z, z ≠ Str.ofString "due" → ([Str.ofString "one"] : List Str).contains z = false → m z = m₀ z) ∧
  ∃ l vs, m (Str.ofString "due") = some (.ref l) ∧ (l, lstO vs) ∈ nx ∧ StrsAre vs ((tolds (xs.take i)).map SS)
theorem DueJ.start {xs : List It} {news : Led} {m₀ : Str → Option Value} {l : Addr} {nx : Led} (g : Grown news nx) (h1 : m₀ (Str.ofString "due") = some (.ref l)) (h3 : (l, lstO []) ∈ nx) : DueJ xs news m₀ 0 m₀ nx :=
  ⟨g, fun _ _ _ => rfl, l, [], h1, h3, by simp [tolds]; exact .nil⟩
theorem DueJ.next {xs : List It} {news nx own big : Led} {I l0 : Addr} {o : Obj} {h₀ h : Heap} {L : Addr} {m₀ m' : Str → Option Value} {i : Nat} {l' : Addr} {us vs9 : List Value} {x9 : It}
    (g0 : Grown news nx) (hI : ∀ q ∈ nx, q.1 ≠ I) (hl : (l0, o) ∈ news) (N : News h₀ L h (nx ++ own)) (hi : ∀ p ∈ own, p.1 = I ∨ p.1 = l0) (hex : ∃ p ∈ own, p.1 = I) (hst : StrsAre us ((tolds (xs.take i)).map SS)) (st9 : StrsAre vs9 ((told x9).map SS)) (hx8 : xs[i]? = some x9)
    (g : Grown (nx ++ own) big) (hm : ∀ z, z ≠ Str.ofString "due" → z ≠ Str.ofString "one" → m' z = m₀ z) (e1 : m' (Str.ofString "due") = some (.ref l')) (hl' : Fresh (nx ++ own) big (l', lstO (us ++ vs9))) :
    DueJ xs news m₀ (i + 1) m' (big.filter fun p => decide (p.1 ≠ I)) := by
  obtain ⟨f1, f2, f3, _⟩ := v_fresh g0 hI g hl N hi hex
  refine ⟨f1, fun z z1 z2 => ?_, l', us ++ vs9, e1, (f3 _ hl').1, ?_⟩
  · have z3 : ¬z = Str.ofString "one" := by simpa using z2
    exact hm z z1 z3
  · rw [tolds_take hx8, List.map_append]
    exact strs_append hst st9
theorem rng4_len {z : Int} : 1 ≤ (1 + Int.fmod z 4 - 0).toNat ∧ (1 + Int.fmod z 4 - 0).toNat ≤ 4 := by
  have h0 := fmod_lo z (n := 4) (by decide)
  have h1 := fmod_hi z (n := 4) (by decide)
  omega
theorem rng4_small {z : Int} {i : Nat} {j : Int} (h : (rangeKs 0 (1 + Int.fmod z 4 - 0).toNat)[i]? = some j) : i ≤ 3 := by
  have h1 := (List.getElem?_eq_some_iff.mp h).1
  rw [rangeKs_length] at h1
  have := fmod_hi z (n := 4) (by decide)
  omega
theorem in_first {c : Addr} {nx big : Led} (off : ∀ p ∈ nx, p.1 ≠ c) (sub : ∀ p ∈ nx, p ∈ big) : ∀ p, p ∈ nx → p ∈ big.filter fun p => decide (p.1 ≠ c) := fun p hp => List.mem_filter.mpr ⟨sub p hp, decide_eq_true (off p hp)⟩
theorem ne_cell {h₀ h : Heap} {L c ld : Addr} {big : Led} {oc : Obj} {v : Option Value} {us : List Value} (N : News h₀ L h big) (hc : (c, oc) ∈ big) (d : oc.data = .cell v) (hd : (ld, lstO us) ∈ big) : ld ≠ c := fun e => by
  have a := (N _ hd).1
  have b := (N _ hc).1
  dsimp only at a b
  rw [e, b] at a
  have q := Option.some.inj a
  rw [q] at d
  cases d
theorem lwB_of {h₀ h : Heap} {L l li ld : Addr} {s₁ : Shared} {tk : Nat} {m : Str → Option Value} {big nx : Led} {oc : Obj} {vs : List Value} {xs : List It} {t1 t2 : Tok} (F : Fr h₀ L h m) (N : News h₀ L h big) (hc : (L + 1, oc) ∈ big) (d : oc.data = .cell none) (off : ∀ p ∈ nx, p.1 ≠ L + 1) (sub : ∀ p ∈ nx, p ∈ big)
    (e1 : m (Str.ofString "script") = some (.ref l)) (e2 : m (Str.ofString "items") = some (.ref li)) (hl : (li, lstO vs) ∈ nx) (hR : ItsR (· ∈ nx) xs vs) (hI : Items xs) (e3 : m (Str.ofString "text") = some (.str (SS (joinC (wrs xs))) t1)) (e4 : m (Str.ofString "flat") = some (.str (SS (joinC (fls xs))) t2))
    (e5 : m (Str.ofString "due") = some (.ref ld)) (hd : (ld, lstO []) ∈ big) (hne : ld ≠ L + 1) : LwB h₀ L l s₁ { s₁ with heap := h, toks := tk } := by
  obtain ⟨N3, off3, _⟩ := cell_first N hc
  exact ⟨_, _, _, _, oc, li, vs, xs, ld, t1, t2, rfl, F, N3, d, off3, e1, e2, in_first off sub _ hl, ItsR.mono (in_first off sub) _ _ hR, hI, e3, e4, e5, List.mem_filter.mpr ⟨hd, decide_eq_true hne⟩⟩
theorem lwC_of {h₀ h : Heap} {L l ld : Addr} {s₁ : Shared} {tk : Nat} {m : Str → Option Value} {big : Led} {oc : Obj} {us : List Value} {xs : List It} {t1 t2 : Tok} (F : Fr h₀ L h m) (N : News h₀ L h big) (hc : (L + 1, oc) ∈ big) (d : oc.data = .cell none)
    (e1 : m (Str.ofString "script") = some (.ref l)) (hI : Items xs) (e3 : m (Str.ofString "text") = some (.str (SS (joinC (wrs xs))) t1)) (e4 : m (Str.ofString "flat") = some (.str (SS (joinC (fls xs))) t2))
    (e5 : m (Str.ofString "due") = some (.ref ld)) (hd : (ld, lstO us) ∈ big) (hst : StrsAre us ((tolds xs).map SS)) : LwC h₀ L l s₁ { s₁ with heap := h, toks := tk } := by
  obtain ⟨N3, off3, _⟩ := cell_first N hc
  exact ⟨_, _, _, _, oc, xs, ld, us, t1, t2, rfl, F, N3, d, off3, e1, hI, e3, e4, e5, List.mem_filter.mpr ⟨hd, decide_eq_true (ne_cell N hc d hd)⟩, hst⟩
theorem lwD_of {h₀ h : Heap} {L l ld : Addr} {s₁ : Shared} {tk : Nat} {m : Str → Option Value} {big : Led} {oc o' : Obj} {us : List Value} {xs : List It} {t1 t2 t3 : Tok} {st : Int} {h9 : Heap} (F : Fr h₀ L h m) (N0 : News h₀ L h9 big) (hc : (L + 1, oc) ∈ big) (d : oc.data = .cell none)
    (N : News h₀ L h ((L + 1, o') :: big.filter fun p => decide (p.1 ≠ L + 1))) (d' : o'.data = .cell (some (.int st t3))) (h0 : 0 ≤ st) (h7 : st < 7)
    (e1 : m (Str.ofString "script") = some (.ref l)) (hI : Items xs) (e3 : m (Str.ofString "text") = some (.str (SS (joinC (wrs xs))) t1)) (e4 : m (Str.ofString "flat") = some (.str (SS (joinC (fls xs))) t2))
    (e5 : m (Str.ofString "due") = some (.ref ld)) (hd : (ld, lstO us) ∈ big) (hst : StrsAre us ((tolds xs).map SS)) : LwD h₀ L l s₁ { s₁ with heap := h, toks := tk } := by
  obtain ⟨_, off3, _⟩ := cell_first N0 hc
  exact ⟨_, _, _, _, o', xs, ld, us, t1, t2, st, t3, rfl, F, N, d', h0, h7, off3, e1, hI, e3, e4, e5, List.mem_filter.mpr ⟨hd, decide_eq_true (ne_cell N0 hc d hd)⟩, hst⟩
end Mine
end

section
open PySem PySem.W PySem.Spec PySem.Calls PyProof.Rows
set_option Elab.async false
set_option maxRecDepth 100000
set_option maxHeartbeats 8000000
namespace Mine
/-- law's frame once start is set -/
def LwS (h₀ : Heap) (L l : Addr) (s₁ : Shared) (xs : List It) (ld : Addr) (us : List Value) (st : Int) (extra : (Str → Option Value) → Prop) (s' : Shared) : Prop :=
  ∃ h tk m nx oc t1 t2 t3, s' = { s₁ with heap := h, toks := tk } ∧ Fr h₀ L h m ∧ News h₀ L h nx ∧ (L + 1, oc) ∈ nx ∧ oc.data = .cell (some (.int st t3)) ∧ m (Str.ofString "script") = some (.ref l) ∧
    m (Str.ofString "text") = some (.str (SS (joinC (wrs xs))) t1) ∧ m (Str.ofString "flat") = some (.str (SS (joinC (fls xs))) t2) ∧ m (Str.ofString "due") = some (.ref ld) ∧ (ld, lstO us) ∈ nx ∧ extra m
theorem lwS_of {h₀ h : Heap} {L l ld : Addr} {s₁ : Shared} {tk : Nat} {m : Str → Option Value} {nx : Led} {oc : Obj} {us : List Value} {xs : List It} {t1 t2 t3 : Tok} {st : Int} {extra : (Str → Option Value) → Prop} (F : Fr h₀ L h m) (N : News h₀ L h nx) (hc : (L + 1, oc) ∈ nx) (d : oc.data = .cell (some (.int st t3)))
    (e1 : m (Str.ofString "script") = some (.ref l)) (e3 : m (Str.ofString "text") = some (.str (SS (joinC (wrs xs))) t1)) (e4 : m (Str.ofString "flat") = some (.str (SS (joinC (fls xs))) t2))
    (e5 : m (Str.ofString "due") = some (.ref ld)) (hd : (ld, lstO us) ∈ nx) (hx : extra m) : LwS h₀ L l s₁ xs ld us st extra { s₁ with heap := h, toks := tk } :=
  ⟨h, tk, m, nx, oc, t1, t2, t3, rfl, F, N, hc, d, e1, e3, e4, e5, hd, hx⟩
/-- the blanks of the wide text -/
def blk (z : Int) : List Nat := ([[32], [], [9], [], [], [10, 32], []] : List (List Nat)).getD (Int.fmod z 7).toNat []
def wdl (st : Int) : Nat → List Nat → List (List Nat)
  | _, [] => []
  | i, c :: l => (blk ((i : Int) + st) ++ [c]) :: wdl st (i + 1) l
theorem wdl_snoc (st : Int) (c : Nat) : ∀ (l : List Nat) (i : Nat), wdl st i (l ++ [c]) = wdl st i l ++ [blk (((i + l.length : Nat) : Int) + st) ++ [c]]
  | [], i => by simp [wdl]
  | b :: l, i => by
    have := wdl_snoc st c l (i + 1)
    simp only [List.cons_append, wdl, this, List.length_cons]
    rw [show i + 1 + l.length = i + (l.length + 1) by omega]
theorem wdl_take (st : Int) {y : List Nat} {i c : Nat} (h : y[i]? = some c) : wdl st 0 (y.take (i + 1)) = wdl st 0 (y.take i) ++ [blk ((i : Int) + st) ++ [c]] := by
  have hl : (y.take i).length = i := by
    have := (List.getElem?_eq_some_iff.mp h).1
    rw [List.length_take]; omega
  rw [List.take_add_one, h]
  show wdl st 0 (y.take i ++ [c]) = _
  rw [wdl_snoc, hl, Nat.zero_add]
theorem blk_small : ∀ k : Nat, k < 7 → (([[32], [], [9], [], [], [10, 32], []] : List (List Nat)).getD k []).length ≤ 2 ∧ noBlank (([[32], [], [9], [], [], [10, 32], []] : List (List Nat)).getD k []) = [] := by decide +kernel
theorem blk_ok (z : Int) : (blk z).length ≤ 2 ∧ noBlank (blk z) = [] := by
  have h0 := fmod_lo z (n := 7) (by decide)
  have h1 := fmod_hi z (n := 7) (by decide)
  exact blk_small _ (by omega)
theorem noBlank_append (a b : List Nat) : noBlank (a ++ b) = noBlank a ++ noBlank b := List.filter_append ..
theorem noBlank_wdl (st : Int) : ∀ (l : List Nat) (i : Nat), noBlank (wdl st i l).flatten = noBlank l
  | [], i => rfl
  | c :: l, i => by
    rw [wdl, List.flatten_cons, noBlank_append, noBlank_append, (blk_ok _).2, noBlank_wdl st l (i + 1), List.nil_append, ← noBlank_append]
    rfl
theorem len_wdl (st : Int) : ∀ (l : List Nat) (i : Nat), (wdl st i l).flatten.length ≤ 3 * l.length ∧ (wdl st i l).length = l.length
  | [], i => by simp [wdl]
  | c :: l, i => by
    have h1 := len_wdl st l (i + 1)
    have h2 := (blk_ok ((i : Int) + st)).1
    simp only [wdl, List.flatten_cons, List.length_append, List.length_cons, List.length_nil]
    omega
/-- no blank in a written text -/
def clean (x : List Nat) : Prop := ∀ c ∈ x, Unicode.isSpace c = false
theorem clean_eq {x : List Nat} (h : clean x) : noBlank x = x := List.filter_eq_self.mpr fun c hc => by rw [h c hc]; rfl
theorem clean_app {a b : List Nat} (h : clean a) (k : clean b) : clean (a ++ b) := fun c hc => (List.mem_append.mp hc).elim (h c) (k c)
theorem clean_word : ∀ w ∈ words, ∀ c ∈ w, Unicode.isSpace c = false := by decide +kernel
theorem clean_dig : ∀ k : Nat, k < 10 → Unicode.isSpace (48 + k) = false := by decide +kernel
theorem clean_sign : Unicode.isSpace 42 = false ∧ Unicode.isSpace 40 = false ∧ Unicode.isSpace 41 = false ∧ Unicode.isSpace 44 = false := by decide +kernel
theorem clean_head {o : Option Nat} (h : ∀ k, o = some k → k ≤ 3) : clean (headC o) := by
  cases o with
  | none => intro c hc; simp [headC] at hc
  | some k =>
    have := h k rfl
    intro c hc
    simp only [headC, List.mem_cons, List.not_mem_nil, or_false] at hc
    rcases hc with rfl | rfl
    · exact clean_dig k (by omega)
    · exact clean_sign.1
theorem clean_join : ∀ {xs : List (List Nat)}, (∀ x ∈ xs, clean x) → clean (joinC xs) := fun h c hc => by
  rcases mem_joinC hc with rfl | ⟨x, hx, hc⟩
  · exact clean_sign.2.2.2
  · exact h x hx c hc
mutual
theorem clean_wr : ∀ (x : It) (d : Nat), Ok d x → clean (wr x)
  | .tok c w, d, h => by
    simp only [Ok] at h
    rw [wr]
    exact clean_app (clean_head h.1) (clean_word w h.2)
  | .br c xs, d, h => by
    simp only [Ok] at h
    rw [wr]
    refine clean_app (clean_head fun k e => Nat.le_trans (h.1 k e) (by decide)) ?_
    have hw := clean_wrs xs (d - 1) h.2.2.2.2
    intro c hc
    simp only [List.mem_cons, List.mem_append, List.not_mem_nil, or_false] at hc
    rcases hc with rfl | hc | rfl
    · exact clean_sign.2.1
    · exact clean_join hw c hc
    · exact clean_sign.2.2.1
theorem clean_wrs : ∀ (xs : List It) (d : Nat), Oks d xs → ∀ x ∈ wrs xs, clean x
  | [], d, h, x, hx => by simp [wrs] at hx
  | y :: r, d, h, x, hx => by
    simp only [Oks] at h
    simp only [wrs, List.mem_cons] at hx
    rcases hx with rfl | hx
    · exact clean_wr y d h.1
    · exact clean_wrs r d h.2 x hx
end
mutual
theorem clean_fl : ∀ (x : It) (d : Nat), Ok d x → clean (fl x)
  | .tok c w, d, h => by
    simp only [Ok] at h
    rw [fl]
    exact clean_app (clean_head h.1) (clean_word w h.2)
  | .br none xs, d, h => by
    simp only [Ok] at h
    rw [fl]
    exact clean_join (clean_fls xs (d - 1) h.2.2.2.2)
  | .br (some k) xs, d, h => by
    simp only [Ok] at h
    rw [fl]
    refine clean_join fun x hx => ?_
    rw [(List.mem_replicate.mp hx).2]
    exact clean_join (clean_fls xs (d - 1) h.2.2.2.2)
theorem clean_fls : ∀ (xs : List It) (d : Nat), Oks d xs → ∀ x ∈ fls xs, clean x
  | [], d, h, x, hx => by simp [fls] at hx
  | y :: r, d, h, x, hx => by
    simp only [Oks] at h
    simp only [fls, List.mem_cons] at hx
    rcases hx with rfl | hx
    · exact clean_fl y d h.1
    · exact clean_fls r d h.2 x hx
end
theorem Items.clean_text {xs : List It} (h : Items xs) : clean (joinC (wrs xs)) := clean_join (clean_wrs xs 2 h.ok)
theorem Items.clean_flat {xs : List It} (h : Items xs) : clean (joinC (fls xs)) := clean_join (clean_fls xs 2 h.ok)
theorem SS_cat (l : List (List Nat)) : Txt.join (Str.ofString "") (l.map SS) = SS l.flatten := by
  have e : Txt.join (Str.ofString "") (l.map SS) = Str.join (SS []) (l.map SS) := by rw [s_none]; exact eq_of_beq (join_plain_closes _ _)
  rw [e]
  clear e
  induction l with
  | nil => rfl
  | cons a r ih =>
    cases r with
    | nil => show SS a = _; simp
    | cons b r =>
      have h1 : Str.join (SS []) ((a :: b :: r).map SS) = SS a ++ SS [] ++ Str.join (SS []) ((b :: r).map SS) := rfl
      rw [h1, ih, SS_append, SS_append, List.append_nil]
      rfl
theorem cat_len : ∀ l : List (List Nat), ((l.map SS).map (·.length)).sum = l.flatten.length := by
  intro l
  induction l with
  | nil => rfl
  | cons a r ih => simp only [List.map_cons, List.sum_cons, ih, List.flatten_cons, List.length_append, SS_len]
theorem cat_call {prog : Program} {w : World} {A : Around} {E : Value → Shared → Prop} {s : Shared} {h₀ : Heap} {L : Addr} {news : Led} {l : Addr} {vs : List Value} {n : Nat} {gs : List (List Nat)} {t : Tok} {Q : Value → Shared → Prop}
    (N : News h₀ L s.heap news) (hl : (l, ({ cls := .type "list", data := .seq vs.toArray n } : Obj)) ∈ news) (hi : StrsAre vs (gs.map SS)) (hb : gs.flatten.length ≤ 1000000)
    (h : ∀ t' k, Q (.str (SS gs.flatten) t') { s with toks := k }) : wpAny (model prog w) A (call (.builtin "str.join") [.str (Str.ofString "") t, .ref l]) Q E s := by
  have h0 : (Str.ofString "").length = 0 := by decide +kernel
  refine join_list (items := vs.toArray) ⟨_, (N _ hl).1, rfl, _, rfl⟩ (by simpa using hi) (by rw [h0, cat_len]; omega) ?_
  rw [SS_cat]
  exact h
def blkS : List Str := [Str.ofString " ", Str.ofString "", Str.ofString "\t", Str.ofString "", Str.ofString "", Str.ofString "\n ", Str.ofString ""]
theorem blk_all : ∀ k : Nat, k < 7 → blkS.getD k Str.empty = SS (([[32], [], [9], [], [], [10, 32], []] : List (List Nat)).getD k []) := by decide +kernel
theorem blk_str (z : Int) : blkS.getD (Int.fmod z 7).toNat Str.empty = SS (blk z) := by
  have h0 := fmod_lo z (n := 7) (by decide)
  have h1 := fmod_hi z (n := 7) (by decide)
  exact blk_all _ (by omega)
theorem wide_next {y : List Nat} {st : Int} {i c : Nat} {ys : List Value} {t : Tok} (h : y[i]? = some c) (hG : StrsAre ys ((wdl st 0 (y.take i)).map SS)) :
    StrsAre (ys ++ [.str (SS (blk ((i : Int) + st)) ++ ⟨#[c]⟩) t]) ((wdl st 0 (y.take (i + 1))).map SS) := by
  rw [wdl_take st h, List.map_append, show SS (blk ((i : Int) + st)) ++ (⟨#[c]⟩ : Str) = SS (blk ((i : Int) + st) ++ [c]) from SS_append _ [c]]
  exact strs_append hG (.cons _ _ .nil)
theorem enEnd_of {h₀ h' : Heap} {L : Addr} {m : Str → Option Value} {nw nw' : Led} {G : Value → Prop} {s : Shared} {y : Value} {tk' : Nat} (F : Fr h₀ L h' m) (N : News h₀ L h' nw') (sub : ∀ p ∈ nw, p ∈ nw') (hG : G y) : EnEnd h₀ L m nw G s y { s with heap := h', toks := tk' } :=
  ⟨h', tk', rfl, F, fun p hp => N p (sub p hp), hG⟩
end Mine
end

section
open PySem PySem.W PySem.Spec PySem.Calls PyProof.Rows PySem.SeqAt
set_option Elab.async false
set_option maxRecDepth 100000
set_option maxHeartbeats 8000000
namespace Mine
theorem reads_of_strs {h : Heap} {a : Addr} {vs : List Value} {ns : List Str} (hl : h.IsList a vs.toArray) (hi : StrsAre vs ns) : Reads h (.ref a) (.list (ns.map PyData.str)) [a] := by
  obtain ⟨o, ho, hc, n, hd⟩ := hl
  exact Reads.list ho hc hd (by simpa using strs_readAll h hi)
theorem canLayAll0_strs : ∀ ns : List Str, (∀ y ∈ ns, PyData.strOk y = true) → PyData.canLayAll0 (ns.map PyData.str) = true
  | [], _ => by simp [PyData.canLayAll0]
  | n :: r, h => by simp [PyData.canLayAll0, PyData.canLay0, canLayAll0_strs r fun y hy => h y (.tail _ hy), h n (.head _)]
theorem depthAll_strs : ∀ ns : List Str, PyData.depthAll (ns.map PyData.str) ≤ 1
  | [] => by simp [PyData.depthAll]
  | n :: r => by
    have := depthAll_strs r
    simp only [List.map_cons, PyData.depthAll, PyData.depth]
    omega
theorem shaped_strs (ns : List Str) (ok : ∀ y ∈ ns, PyData.strOk y = true) : shaped (.list (ns.map PyData.str)) = true := by
  have h1 := depthAll_strs ns
  have h2 : PyData.depth (.list (ns.map PyData.str)) ≤ 64 := by simp only [PyData.depth]; omega
  show (PyData.canLay0 (.list (ns.map PyData.str)) && decide (PyData.depth (.list (ns.map PyData.str)) ≤ 64)) = true
  rw [Bool.and_eq_true]
  exact ⟨by simp only [PyData.canLay0]; exact canLayAll0_strs ns ok, decide_eq_true h2⟩
theorem noMix_strs : ∀ ns : List Str, noMixAll (ns.map PyData.str) (ns.map PyData.str) = true
  | [] => by simp [noMixAll]
  | _ :: r => by simp [noMixAll, noMix, noMix_strs r]
theorem same_strs : ∀ ns : List Str, PySem.Spec.sameAll (ns.map PyData.str) (ns.map PyData.str) = true
  | [] => by simp [PySem.Spec.sameAll]
  | n :: r => by simp [PySem.Spec.sameAll, PySem.Spec.same, same_strs r]
section
variable {prog : Program} {w : World} {A : Around} {E : Value → Shared → Prop} {s : Shared}
theorem eq_strsL {a b : Addr} {vs us : List Value} {ns : List Str} {Q : Value → Shared → Prop} (hl : s.heap.IsList a vs.toArray) (hi : StrsAre vs ns) (hl' : s.heap.IsList b us.toArray) (hi' : StrsAre us ns) (ok : ∀ y ∈ ns, PyData.strOk y = true) (hu : A.units + 64 < cLine)
    (h : Q (.bool true) s) : wpAny (model prog w) A (compareOp .Eq (.ref a) (.ref b)) Q E s :=
  eq_dataH_same (reads_of_strs hl hi) (reads_of_strs hl' hi') (shaped_strs ns ok) (shaped_strs ns ok) hu (by simp only [noMix]; exact noMix_strs ns) (by simp only [PySem.Spec.same]; rw [same_strs]; exact h)
theorem ne_strsL {a b : Addr} {vs us : List Value} {ns : List Str} {Q : Value → Shared → Prop} (hl : s.heap.IsList a vs.toArray) (hi : StrsAre vs ns) (hl' : s.heap.IsList b us.toArray) (hi' : StrsAre us ns) (ok : ∀ y ∈ ns, PyData.strOk y = true) (hu : A.units + 64 < cLine)
    (h : Q (.bool false) s) : wpAny (model prog w) A (compareOp .NotEq (.ref a) (.ref b)) Q E s :=
  ne_dataH_same (reads_of_strs hl hi) (reads_of_strs hl' hi') (shaped_strs ns ok) (shaped_strs ns ok) hu (by simp only [noMix]; exact noMix_strs ns) (by simp only [PySem.Spec.same]; rw [same_strs]; exact h)
end
theorem word_strOk : ∀ w ∈ words, PyData.strOk (SS w) = true := by decide +kernel
mutual
theorem told_in : ∀ (x : It) (d : Nat), Ok d x → ∀ w ∈ told x, w ∈ words
  | .tok none y, d, h, w, hw => by
    simp only [Ok] at h
    simp only [told, List.mem_singleton] at hw
    exact hw ▸ h.2
  | .tok (some c) y, d, h, w, hw => by
    simp only [Ok] at h
    simp only [told] at hw
    exact (List.mem_replicate.mp hw).2 ▸ h.2
  | .br none xs, d, h, w, hw => by
    simp only [Ok] at h
    simp only [told] at hw
    exact tolds_in xs (d - 1) h.2.2.2.2 w hw
  | .br (some c) xs, d, h, w, hw => by
    simp only [Ok] at h
    simp only [told] at hw
    obtain ⟨l, hl, hw⟩ := List.mem_flatten.mp hw
    rw [(List.mem_replicate.mp hl).2] at hw
    exact tolds_in xs (d - 1) h.2.2.2.2 w hw
theorem tolds_in : ∀ (xs : List It) (d : Nat), Oks d xs → ∀ w ∈ tolds xs, w ∈ words
  | [], d, h, w, hw => by simp [tolds] at hw
  | x :: r, d, h, w, hw => by
    simp only [Oks] at h
    simp only [tolds, List.mem_append] at hw
    rcases hw with hw | hw
    · exact told_in x d h.1 w hw
    · exact tolds_in r d h.2 w hw
end
theorem Items.told_strOk {xs : List It} (h : Items xs) : ∀ y ∈ (tolds xs).map SS, PyData.strOk y = true := fun y hy => by
  obtain ⟨w, hw, rfl⟩ := List.mem_map.mp hy
  exact word_strOk w (tolds_in xs 2 h.ok w hw)
/-- what is told whole, as preprocess_tokens tells it -/
theorem Coll.toM {ps : List (List Nat)} {r : Option (List (List Nat))} (h : Coll ps r) : ∀ {t}, r = some t → CollM ps r := by
  induction h with
  | nil => intro t e; exact .nil
  | @more p t ps r hp hc ih =>
    intro t' e
    cases r with
    | none => cases e
    | some r => exact .more hp (ih rfl)
  | bad => intro t e; cases e
/-- all fine but the last -/
theorem Coll.cut {ps : List (List Nat)} {r : Option (List (List Nat))} (h : Coll ps r) : ∀ {t}, r = some t → ∀ q, (BadP q → CollB (ps ++ [q])) ∧ ∀ k : Nat, 1 ≤ k → k ≤ 7 → CollM (ps ++ [[45, 48 + k, 42, 117, 56]]) none := by
  induction h with
  | nil => intro t e q; exact ⟨fun h => .here h, fun k h1 h2 => .bad h1 h2⟩
  | @more p t ps r hp hc ih =>
    intro t' e q
    cases r with
    | none => cases e
    | some r =>
      obtain ⟨h1, h2⟩ := ih rfl q
      exact ⟨fun hq => .more hp (h1 hq), fun k a b => .more (r := none) hp (h2 k a b)⟩
  | bad => intro t e; cases e
theorem s_whole (a : List Nat) : SS a ++ Str.ofString ",(u8)" = SS (a ++ [44, 40, 117, 56, 41]) := by
  rw [show Str.ofString ",(u8)" = SS [44, 40, 117, 56, 41] by decide +kernel, SS_append]
/-- where the closing signs stand -/
def posl : Nat → List Nat → List Int
  | _, [] => []
  | i, c :: l => if c = 41 then (i : Int) :: posl (i + 1) l else posl (i + 1) l
theorem posl_snoc (c : Nat) : ∀ (l : List Nat) (i : Nat), posl i (l ++ [c]) = posl i l ++ if c = 41 then [((i + l.length : Nat) : Int)] else []
  | [], i => by simp only [List.nil_append, posl, List.length_nil, Nat.add_zero]
  | b :: l, i => by
    have := posl_snoc c l (i + 1)
    simp only [List.cons_append, posl, this, List.length_cons]
    rw [show i + 1 + l.length = i + (l.length + 1) by omega]
    split <;> simp
theorem posl_take {y : List Nat} {i c : Nat} (h : y[i]? = some c) : posl 0 (y.take (i + 1)) = posl 0 (y.take i) ++ if c = 41 then [(i : Int)] else [] := by
  have hl : (y.take i).length = i := by
    have := (List.getElem?_eq_some_iff.mp h).1
    rw [List.length_take]; omega
  rw [List.take_add_one, h]
  show posl 0 (y.take i ++ [c]) = _
  rw [posl_snoc, hl, Nat.zero_add]
theorem posl_mem : ∀ (l : List Nat) (i : Nat) (z : Int), z ∈ posl i l → ∃ u v, l = u ++ 41 :: v ∧ z = ((i + u.length : Nat) : Int)
  | [], i, z, h => by simp [posl] at h
  | c :: l, i, z, h => by
    have ih := posl_mem l (i + 1) z
    by_cases hc : c = 41
    · rw [posl, if_pos hc] at h
      rcases List.mem_cons.mp h with e | h
      · exact ⟨[], l, by rw [hc]; rfl, by simpa using e⟩
      · obtain ⟨u, v, e1, e2⟩ := ih h
        exact ⟨c :: u, v, by rw [e1]; rfl, by rw [e2, List.length_cons, show i + 1 + u.length = i + (u.length + 1) by omega]⟩
    · rw [posl, if_neg hc] at h
      obtain ⟨u, v, e1, e2⟩ := ih h
      exact ⟨c :: u, v, by rw [e1]; rfl, by rw [e2, List.length_cons, show i + 1 + u.length = i + (u.length + 1) by omega]⟩
theorem posl_some (a b : List Nat) (i : Nat) : posl i (a ++ 41 :: b) ≠ [] := by
  induction a generalizing i with
  | nil => simp [posl]
  | cons c a ih =>
    rw [List.cons_append, posl]
    split
    · simp
    · exact ih (i + 1)
theorem posl_len : ∀ (l : List Nat) (i : Nat), (posl i l).length ≤ l.length
  | [], i => by simp [posl]
  | c :: l, i => by
    have := posl_len l (i + 1)
    rw [posl]
    split <;> simp <;> omega
theorem s_close1 (c : Nat) : ((⟨#[c]⟩ : Str) == Str.ofString ")") = decide (c = 41) := by
  rw [s_close, show (⟨#[c]⟩ : Str) = SS [c] from rfl, SS_eq]
  by_cases h : c = 41
  · subst h; rfl
  · rw [decide_eq_false h]
    simpa using h
theorem ints_snoc {ys : List Value} {ns : List Int} {z : Int} {t : Tok} (h : IntsAre ys ns) : IntsAre (ys ++ [.int z t]) (ns ++ [z]) := by
  induction h with
  | nil => exact .cons z t .nil
  | cons k u _ ih => exact .cons k u ih
/-- as IntsAre, out of the walker's sight -/
structure PosAre (ys : List Value) (ns : List Int) : Prop where
  is : IntsAre ys ns
theorem pos_yes {y : List Nat} {i c : Nat} {ys : List Value} {t : Tok} (h : y[i]? = some c) (hc : ((⟨#[c]⟩ : Str) == Str.ofString ")") = true) (hG : PosAre ys (posl 0 (y.take i))) : PosAre (ys ++ [.int i t]) (posl 0 (y.take (i + 1))) := by
  refine ⟨?_⟩
  rw [s_close1] at hc
  rw [posl_take h, if_pos (of_decide_eq_true hc)]
  exact ints_snoc hG.is
theorem pos_no {y : List Nat} {i c : Nat} {ys : List Value} (h : y[i]? = some c) (hc : ¬((⟨#[c]⟩ : Str) == Str.ofString ")") = true) (hG : PosAre ys (posl 0 (y.take i))) : PosAre ys (posl 0 (y.take (i + 1))) := by
  refine ⟨?_⟩
  rw [s_close1] at hc
  rw [posl_take h, if_neg (fun e => hc (decide_eq_true e)), List.append_nil]
  exact hG.is
end Mine
end

section
open PySem PySem.W PySem.Spec PySem.Calls PyProof.Rows
set_option Elab.async false
set_option maxRecDepth 100000
set_option maxHeartbeats 8000000
namespace Mine
/-- the end of a turn of the loops over the odd texts -/
def OddEnd (h₀ : Heap) (L : Addr) (m₀ : Str → Option Value) (nw : Led) (s : Shared) (f : Flow) (s' : Shared) : Prop :=
  f = .next ∧ ∃ h' tk' m' nw', s' = { s with heap := h', toks := tk' } ∧ Fr h₀ L h' m' ∧ (∀ z, z ≠ Str.ofString "odd" → m' z = m₀ z) ∧ News h₀ L h' nw' ∧ ∀ p ∈ nw, p ∈ nw'
theorem odd_loopC {prog : Program} {w : World} {A : Around} {E : Value → Shared → Prop} {s : Shared} {env : Env} {h₀ : Heap} {body : List Stmt} {Q : Flow → Shared → Prop} {l : Addr} {vs : List Value} {kk : Nat} {m₀ : Str → Option Value} {news : Led}
    (hh : A.handled = none) (hm : (l, ({ cls := .type "tuple", data := .seq vs.toArray kk } : Obj)) ∈ news) (F : Fr h₀ env.locals s.heap m₀) (N : News h₀ env.locals s.heap news)
    (turn : ∀ (i : Nat) (v : Value) (m₁ : Str → Option Value) (h : Heap) (tk : Nat) (own : Led), vs[i]? = some v → (∀ z, z ≠ Str.ofString "odd" → m₁ z = m₀ z) → Fr h₀ env.locals h (fun y => if y = Str.ofString "odd" then some v else m₁ y) → News h₀ env.locals h (own ++ news) →
      wpC (model prog w) A (execs body env) (OddEnd h₀ env.locals m₀ (own ++ news) { s with heap := h, toks := tk }) E { s with heap := h, toks := tk })
    (done : ∀ (m₁ : Str → Option Value) (h : Heap) (tk : Nat), (∀ z, z ≠ Str.ofString "odd" → m₁ z = m₀ z) → Fr h₀ env.locals h m₁ → News h₀ env.locals h news → Q .next { s with heap := h, toks := tk }) :
    wpAny (model prog w) A (pyIter (.ref l)) (fun it s₂ => LoopC prog w A h₀ env (Str.ofString "odd") body Q E it s₂) E s := by
  have hls : s.heap.IsTuple l vs.toArray := ⟨_, (N _ hm).1, rfl, _, rfl⟩
  have hlt : l < s.heap.objs.size := Heap.lt_size (N _ hm).1
  refine wpAny_pyIter_tuple hls ?_
  have W := Walks.tuple (prog := prog) (w := w) hh s.heap.objs.size l (Nat.ne_of_lt hlt) vs.toArray
  rw [List.size_toArray] at W
  refine ⟨_, _, _, vs.length, _, _, m₀, news, fun _ m nx => nx = news ∧ ∀ z, z ≠ Str.ofString "odd" → m z = m₀ z, rfl, W, ?_, ?_, ?_, ⟨⟨_, Heap.get?_push_size _ rfl, rfl, rfl⟩, hls.at fun o e => Heap.get?_push_of_some _ e⟩, F.push _, (fun p hp => ⟨Heap.get?_push_of_some _ (N p hp).1, (N p hp).2⟩), ⟨rfl, fun _ _ => rfl⟩, ?_, ?_⟩
  · intro hm'
    rcases List.mem_cons.mp hm' with e | hm'
    · exact absurd F.ns.lt (e ▸ Nat.lt_irrefl _)
    · exact (N _ hm).2.1 (List.mem_singleton.mp hm').symm
  · intro b hb
    rw [List.mem_singleton.mp hb]
    exact next_is_new F
  · intro p hp hI
    exact absurd (Heap.lt_size (N p hp).1) ((List.mem_singleton.mp hI) ▸ Nat.lt_irrefl _)
  · rintro i v m₁ news₁ s₁ own ⟨hh', tk', rfl⟩ hin hP ⟨rfl, hJ⟩ hoff hown _ hmem hst F₁ N₁
    have hv : vs[i]? = some v := by simpa using hP
    refine wpC_mono (turn i v m₁ hh' tk' own hv hJ F₁ N₁) (fun f s₂ p => ?_) fun _ _ e => e
    obtain ⟨rfl, h', tk2, m', nw', e, F', hm', N', sub⟩ := p
    exact .next ⟨rfl, h', tk2, m', news₁, e, F', fun p hp => N' p (sub p hp), hoff, rfl, hm'⟩
  · rintro h' tk m' news' F' N' _ ⟨rfl, hJ⟩
    exact done m' h' tk hJ F' N'
theorem oddEnd_of {h₀ h' : Heap} {L : Addr} {m₀ m' : Str → Option Value} {nw nw' : Led} {s : Shared} {tk' : Nat} (F : Fr h₀ L h' m') (hm : ∀ z, z ≠ Str.ofString "odd" → m' z = m₀ z) (N : News h₀ L h' nw') (sub : ∀ p ∈ nw, p ∈ nw') : OddEnd h₀ L m₀ nw s .next { s with heap := h', toks := tk' } :=
  ⟨rfl, h', tk', m', nw', rfl, F, hm, N, sub⟩
theorem ConX.refuses {w : World} {f : Addr} {vs : List Value} {dep un' : Nat} {base : Heap} {news : Led} {Post : (Addr × Obj → Prop) → Value → Prop} {Ex : Prop} (C : ConX w f vs dep un' base news Post Ex) (h : ∀ S v, Post S v → False) : ConXC w f vs dep un' base news (fun _ _ => False) True :=
  fun mean mg mb dp un gd cn cs a ccd cl outer A₀ h₀ L m s Q E B F X N T hk hd hu _ hexc => wpC_of (C mean mg mb dp un gd cn cs a ccd cl outer A₀ h₀ L m s Q E B F X N T hk hd hu (fun _ _ _ _ _ _ _ p => (h _ _ p).elim) fun g' h' tk' e news' _ => hexc g' h' tk' e news' trivial)
theorem expand_refuses {w : World} {base : Heap} {X : List Nat} {t0 : Tok} (hE : Ends 100000 X none) (hX : X.length ≤ 100000) : ∀ news, ConXC w 77 [.str (SS X) t0] 1 16 base news (fun _ _ => False) True := fun news =>
  (expand_walk hE hX).refuses fun S v h => by obtain ⟨z, t, e, _⟩ := h; cases e
theorem pre_refuses {w : World} {base : Heap} {X : List Nat} {t0 : Tok} (hE : Ends 100000 X none) (hX : X.length ≤ 100000) (hb : noBlank X = X) : ∀ news, ConXC w 65 [.str (SS X) t0] 4 64 base news (fun _ _ => False) True := fun news =>
  (pre_try (rr := none) hX (by rw [hb]; exact hE) fun z e => by cases e).refuses fun S v h => by obtain ⟨t, e, _⟩ := h; cases e
theorem pre_minus {w : World} {base : Heap} {X z : List Nat} {t0 : Tok} (hE : Ends 100000 X (some z)) (hX : X.length ≤ 100000) (hb : noBlank X = X) (hz : z.length ≤ 100000) (hC : CollM (splitC z) none) : ∀ news, ConXC w 65 [.str (SS X) t0] 4 64 base news (fun _ _ => False) True := fun news =>
  (pre_try (rr := none) hX (by rw [hb]; exact hE) fun z' e => by injection e with e; subst e; exact ⟨hz, hC⟩).refuses fun S v h => by obtain ⟨t, e, _⟩ := h; cases e
theorem slice_to {u v : List Nat} : Txt.slice (SS (u ++ 41 :: v)) none (some (u.length : Int)) = SS u := by
  have := SS_slice0 (a := u) (t := 41 :: v) (j := u.length) rfl
  rw [← this]
  rfl
theorem slice_on {u v : List Nat} {i : Int} (hi : i = u.length + 1) : Txt.slice (SS (u ++ 41 :: v)) (some i) none = SS v := by
  have := SS_rest (a := u ++ [41]) (b := v) (i := i) (by rw [hi]; simp)
  rw [List.append_assoc] at this
  exact this
theorem s_star2 (a : List Nat) : SS a ++ Str.ofString ",*(u8)" = SS (a ++ [44, 42, 40, 117, 56, 41]) := by
  rw [show Str.ofString ",*(u8)" = SS [44, 42, 40, 117, 56, 41] by decide +kernel, SS_append]
theorem s_ustar2 (a : List Nat) : SS a ++ Str.ofString ",u*(u8)" = SS (a ++ [44, 117, 42, 40, 117, 56, 41]) := by
  rw [show Str.ofString ",u*(u8)" = SS [44, 117, 42, 40, 117, 56, 41] by decide +kernel, SS_append]
/-- what both functions refuse -/
def OddT (v : Value) : Prop := ∃ X t, v = .str (SS X) t ∧ X.length ≤ 100000 ∧ Ends 100000 X none ∧ noBlank X = X
theorem clean_sub {u v : List Nat} {c : Nat} (h : clean (u ++ c :: v)) : clean (u ++ v) := fun z hz => h z (by
  rcases List.mem_append.mp hz with hz | hz
  · exact List.mem_append_left _ hz
  · exact List.mem_append_right _ (.tail _ hz))
theorem Items.clean_with {xs : List It} (h : Items xs) {b : List Nat} (hb : clean b) : noBlank (joinC (wrs xs) ++ b) = joinC (wrs xs) ++ b := clean_eq (clean_app h.clean_text hb)
theorem odd_texts {xs : List It} (hI : Items xs) {u v : List Nat} (e : joinC (wrs xs) ++ [44, 40, 117, 56, 41] = u ++ 41 :: v) {t1 t2 t3 : Tok} {i : Nat} {x : Value}
    (h : ([.str (SS (u ++ v)) t1, .str (SS (joinC (wrs xs) ++ [44, 42, 40, 117, 56, 41])) t2, .str (SS (joinC (wrs xs) ++ [44, 117, 42, 40, 117, 56, 41])) t3] : List Value)[i]? = some x) : OddT x := by
  have hl := hI.text_le
  have c1 : clean [44, 40, 117, 56, 41] := by unfold clean; decide +kernel
  have c2 : clean [44, 42, 40, 117, 56, 41] := by unfold clean; decide +kernel
  have c3 : clean [44, 117, 42, 40, 117, 56, 41] := by unfold clean; decide +kernel
  have hu : (u ++ v).length ≤ 100000 := by
    have := congrArg List.length e
    simp only [List.length_append, List.length_cons, List.length_nil] at this ⊢
    omega
  match i, h with
  | 0, h => cases h; exact ⟨_, _, rfl, hu, hI.cut e, clean_eq (clean_sub (e ▸ clean_app hI.clean_text c1))⟩
  | 1, h => cases h; exact ⟨_, _, rfl, by simp only [List.length_append, List.length_cons, List.length_nil]; omega, hI.star, hI.clean_with c2⟩
  | 2, h => cases h; exact ⟨_, _, rfl, by simp only [List.length_append, List.length_cons, List.length_nil]; omega, hI.ustar, hI.clean_with c3⟩
  | n + 3, h => simp at h
theorem wpC_nil {M : Model} {A : Around} {E : Value → Shared → Prop} {s : Shared} {env : Env} {Q : Flow → Shared → Prop} (h : Q .next s) : wpC M A (execs [] env) Q E s := wpC_of (wpAny_execs_nil h)
end Mine
end

section
open PySem PySem.W PySem.Spec PySem.Calls PyProof.Rows
set_option Elab.async false
set_option maxRecDepth 100000
set_option maxHeartbeats 8000000
namespace Mine
theorem dig_str : ∀ k : Nat, k < 8 → Str.ofString "-" ++ Str.ofString (toString ((k : Nat) : Int)) ++ Str.ofString "*u8" = SS [45, 48 + k, 42, 117, 56] := by decide +kernel
theorem s_minus {st : Int} (h0 : 0 ≤ st) (h7 : st < 7) : Str.ofString "-" ++ Str.ofString (toString (st + 1)) ++ Str.ofString "*u8" = SS [45, 48 + (st + 1).toNat, 42, 117, 56] := by
  have := dig_str (st + 1).toNat (by omega)
  rw [Int.toNat_of_nonneg (by omega)] at this
  exact this
theorem s_x : Str.ofString "x*u8" = SS [120, 42, 117, 56] := by decide +kernel
theorem s_23 : Str.ofString "2*3*u8" = SS [50, 42, 51, 42, 117, 56] := by decide +kernel
theorem s_odd (a b : List Nat) : SS a ++ Str.ofString "," ++ SS b = SS (a ++ 44 :: b) := by
  rw [s_comma, SS_append, SS_append, List.append_assoc]
  rfl
/-- what preprocess_tokens refuses behind a text, and expand_brackets leaves as it is -/
def OddV (xs : List It) (v : Value) : Prop := ∃ O t, v = .str (SS O) t ∧ O.length ≤ 100 ∧ Ends 100000 O (some O) ∧ ∀ (w : World) (base : Heap) (t0 : Tok) (news : Led), ConXC w 65 [.str (SS (joinC (wrs xs) ++ 44 :: O)) t0] 4 64 base news (fun _ _ => False) True
theorem oddV_of {xs : List It} (hI : Items xs) {O : List Nat} {t : Tok} (hl : O.length ≤ 100) (h40 : 40 ∉ O) (h44 : ∀ c ∈ O, c ≠ 44) (hc : clean O) (hb : BadP O ∨ ∃ k : Nat, 1 ≤ k ∧ k ≤ 7 ∧ O = [45, 48 + k, 42, 117, 56]) : OddV xs (.str (SS O) t) := by
  have wl := hI.text_le
  have fl := hI.flat_le
  have hx : (joinC (wrs xs) ++ 44 :: O).length ≤ 100000 := by rw [List.length_append, List.length_cons]; omega
  have hz : (joinC (fls xs) ++ 44 :: O).length ≤ 100000 := by rw [List.length_append, List.length_cons]; omega
  have hE : Ends 100000 (joinC (wrs xs) ++ 44 :: O) (some (joinC (fls xs) ++ 44 :: O)) := hI.odd_ends hl h40
  have hc2 : clean (44 :: O) := fun c h => by
    rcases List.mem_cons.mp h with rfl | h
    · exact clean_sign.2.2.2
    · exact hc c h
  have hnb := hI.clean_with hc2
  have hs : splitC (joinC (fls xs) ++ 44 :: O) = splitC (joinC (fls xs)) ++ [O] := by rw [splitC_append, splitC_plain h44]
  obtain ⟨h1, h2⟩ := hI.told_coll.cut rfl O
  refine ⟨O, t, rfl, hl, .stop h40, fun w base t0 news => ?_⟩
  rcases hb with hb | ⟨k, k1, k2, rfl⟩
  · exact pre_bad hx (by rw [hnb]; exact hE) hz (by rw [hs]; exact h1 hb)
  · exact pre_minus hE hx hnb hz (by rw [hs]; exact h2 k k1 k2) news
theorem odd_two {xs : List It} (hI : Items xs) {k : Nat} (h1 : 1 ≤ k) (h2 : k ≤ 7) {t1 t2 t3 : Tok} {i : Nat} {x : Value}
    (h : ([.str (SS [45, 48 + k, 42, 117, 56]) t1, .str (SS [120, 42, 117, 56]) t2, .str (SS [50, 42, 51, 42, 117, 56]) t3] : List Value)[i]? = some x) : OddV xs x := by
  match i, h with
  | 0, h =>
    cases h
    refine oddV_of hI (by simp) (by simp; omega) (by intro c hc; simp at hc; omega) ?_ (.inr ⟨k, h1, h2, rfl⟩)
    have : ∀ k : Fin 8, ∀ c ∈ [45, 48 + k.val, 42, 117, 56], Unicode.isSpace c = false := by decide +kernel
    exact this ⟨k, by omega⟩
  | 1, h => cases h; exact oddV_of hI (by simp) (by simp) (by simp) (by unfold clean; decide +kernel) (.inl badP_letter)
  | 2, h => cases h; exact oddV_of hI (by simp) (by simp) (by simp) (by unfold clean; decide +kernel) (.inl badP_twice)
  | n + 3, h => simp at h
theorem s_twice (a : List Nat) : SS a ++ Str.ofString ",(" ++ SS a ++ Str.ofString ")" = SS (a ++ 44 :: 40 :: (a ++ [41])) := by
  rw [show Str.ofString ",(" = SS [44, 40] by decide +kernel, s_close, SS_append, SS_append, SS_append, List.append_assoc, List.append_assoc]
  rfl
theorem Items.clean_twice {xs : List It} (h : Items xs) : noBlank (joinC (wrs xs) ++ 44 :: 40 :: (joinC (wrs xs) ++ [41])) = joinC (wrs xs) ++ 44 :: 40 :: (joinC (wrs xs) ++ [41]) := h.clean_with fun c hc => by
  simp only [List.mem_cons, List.mem_append, List.not_mem_nil, or_false] at hc
  rcases hc with rfl | rfl | hc | rfl
  · exact clean_sign.2.2.2
  · exact clean_sign.2.1
  · exact h.clean_text c hc
  · exact clean_sign.2.2.1
theorem Items.twice_told {xs : List It} (h : Items xs) : ∀ z, some (joinC (fls xs) ++ 44 :: joinC (fls xs)) = some z → z.length ≤ 100000 ∧ CollM (splitC z) (some (tolds xs ++ tolds xs)) := fun z e => by
  injection e with e
  subst e
  have := h.flat_le
  exact ⟨by rw [List.length_append, List.length_cons]; omega, h.twice_coll.toM rfl⟩
theorem Items.twice_strOk {xs : List It} (h : Items xs) : ∀ y ∈ (tolds xs ++ tolds xs).map SS, PyData.strOk y = true := fun y hy => by
  rw [List.map_append] at hy
  exact (List.mem_append.mp hy).elim (h.told_strOk y) (h.told_strOk y)
end Mine
end

section
open PySem PySem.W PySem.Spec PySem.Calls PyProof.Rows
set_option Elab.async false
set_option maxRecDepth 100000
set_option maxHeartbeats 400000000
set_option linter.unusedVariables false
namespace Mine
local macro_rules | `(tactic| walk_at "pad M1 0") => `(tactic| fail)
local macro_rules | `(tactic| walk_at "pad M1 1") => `(tactic| fail)
local macro_rules | `(tactic| walk_at "pad M1 2") => `(tactic| fail)
local macro_rules | `(tactic| walk_at "pad M1 3") => `(tactic| fail)
local macro_rules | `(tactic| walk_at "pad M1 4") => `(tactic| fail)
local macro_rules | `(tactic| walk_at "pad M1 5") => `(tactic| fail)
local macro_rules | `(tactic| walk_at "pad M1 6") => `(tactic| fail)
local macro_rules | `(tactic| walk_at "pad M1 7") => `(tactic| fail)
local macro_rules | `(tactic| walk_at "pad M1 8") => `(tactic| fail)
local macro_rules | `(tactic| walk_at "pad M1 9") => `(tactic| fail)
local macro_rules | `(tactic| walk_at "pad M1 10") => `(tactic| fail)
local macro_rules | `(tactic| walk_at "pad M1 11") => `(tactic| fail)
local macro_rules | `(tactic| walk_at "pad M1 12") => `(tactic| fail)
local macro_rules | `(tactic| walk_at "pad M1 13") => `(tactic| fail)
local macro_rules | `(tactic| walk_at "pad M1 14") => `(tactic| fail)
local macro_rules | `(tactic| walk_at "pad M1 15") => `(tactic| fail)
local macro_rules | `(tactic| walk_at "pad M1 16") => `(tactic| fail)
local macro_rules | `(tactic| walk_at "pad M1 17") => `(tactic| fail)
local macro_rules | `(tactic| walk_at "pad M1 18") => `(tactic| fail)
theorem kept_part50 (h : hd.heap_39 = hd.heap_39 → PySem.Challenge.rw_fc0017_01 = PySem.Challenge.rw_fc0017_01) : True := by
  revert h
  k_fill
  w_top off
  k_with_none
  intro _; trivial
local macro_rules | `(tactic| walk_at "my enter") => `(tactic| (refine' code_def ?k1 ?k2 ?k3 ?k4 ?k5 ?kA ?kF ?kK ?k6 ?k7 ?k8 ?k9 ?kB ?_ ?c2 ?c3 ?c4 ?c5; (case kA => exact rfl); (case kF => exact rfl); (case kK => assumption); (case k1 => k_asm); (case k2 => k_asm); (case k3 => k_asm); (case k4 => k_asm); (case k5 => k_asm); (case k6 => k_is); (case k7 => k_is); (case k8 => ktr_room); (case k9 => exact BindsTo.of_eq rfl); (case c5 => decide); (case kB => exact locs rfl); (case c2 => exact rfl); (case c3 => exact rfl); (case c4 => exact rfl); k_whole; intro g' L' h' FG' F' N' B' X' T'; (try dsimp only); (try k_lift B'); (try k_fold)))
local macro_rules | `(tactic| walk_at "my use") => `(tactic| ( (case k1 => k_asm); (case k2 => k_asm); (case k3 => k_asm); (case k4 => k_asm); (case k5 => k_asm); (case kK => first | exact rfl | assumption); (case kd => ktr_room); (case ku => ktr_units)))
local macro_rules | `(tactic| walk_at "call ref") => `(tactic| (k_here; k_extra "call ref"))
local macro_rules | `(tactic| walk_at "pyIter ref") => `(tactic| (k_here; k_extra "pyIter ref"))
local macro_rules | `(tactic| walk_at "exec For Name Call cons nil") => `(tactic| (k_here; k_extra "exec For Name Call cons nil"))
local macro_rules | `(tactic| walk_at "exec For Name Name cons nil") => `(tactic| (k_here; (rename Fr _ _ _ _ => lF9); (with_unfolding_all refine' For_invVF lF9 ?k1 ?k2 ?_; (case k1 => exact rfl); (case k2 => exact rfl); k_whole)))
local macro_rules | `(tactic| walk_at "my lt") => `(tactic| first | exact ne_of_allLt (by assumption) | exact ne_of_allLt (allLt_of (by assumption)) | exact ne_of_off1 (by assumption))
local macro_rules | `(tactic| walk_at "my grown") => `(tactic| first | assumption | exact Grown.refl _ | exact Grown.trans (by assumption) (by assumption) | (refine Grown.cons ?_ ?_; (walk_at "my grown"); (walk_at "my lt")) | (refine Grown.dup ?_ ?_; (walk_at "my grown"); (walk_at "my mem")))
local macro_rules | `(tactic| walk_at "my fresh") => `(tactic| first | exact fresh_head (by walk_at "my grown") (by walk_at "my lt") | (refine Fresh.tail ?_; walk_at "my fresh"))
local macro_rules | `(tactic| walk_at "my mem") => `(tactic| first | exact .head _ | assumption | (refine .tail _ ?_; walk_at "my mem") | (refine Grown.sub (by assumption) _ ?_; walk_at "my mem"))
local macro_rules | `(tactic| walk_at "my fit") => `(tactic| k_extra "my fit")
local macro_rules | `(tactic| walk_at "binaryOp Add") => `(tactic| (k_here; (with_reducible show wpAny _ _ (binaryOp Operator.Add (Value.ref _) (Value.ref _)) _ _ _); refine' add_two ?k1 ?k2 ?k3 ?k4 ?k5 ?_; (case k1 => k_asm); (case k2 => k_asm); (case k3 => walk_at "my mem"); (case k4 => walk_at "my mem"); (case k5 => walk_at "my fit"); k_whole; intro a9' h9' F9' N9' l9'))
local macro_rules | `(tactic| walk_at "eval ListComp") => `(tactic| (k_here; k_dflt (refine LCg.ListComp_U (F₀ := by k_asm) (by rfl) (by decide) (by rfl) (by decide) (by rfl) ?_)))
local macro_rules | `(tactic| walk_at "CompSrc") => `(tactic| (k_extra "CompSrc"))
local macro_rules | `(tactic| walk_at "call builtin:str.join") => `(tactic| (k_here; k_extra "call builtin:str.join"))
local macro_rules | `(tactic| walk_at "binaryOp Mult ref int") => `(tactic| (k_here; k_extra "binaryOp Mult ref int"))
local macro_rules | `(tactic| walk_at "call builtin:str.find") => `(tactic| (k_here; k_extra "call builtin:str.find"))
local macro_rules | `(tactic| walk_at "exec While Compare cons nil") => `(tactic| (k_here; k_extra "exec While Compare cons nil"))
local macro_rules | `(tactic| walk_at "leaving ref") => `(tactic| (k_here; k_extra "leaving ref"))
local macro_rules | `(tactic| walk_at "getMethod ref") => `(tactic| (k_here; k_extra "getMethod ref"))
local macro_rules | `(tactic| walk_at "call builtin:re.Pattern.search") => `(tactic| (k_here; k_extra "call builtin:re.Pattern.search"))
local macro_rules | `(tactic| walk_at "call builtin:re.Match.group") => `(tactic| (k_here; k_extra "call builtin:re.Match.group"))
local macro_rules | `(tactic| walk_at "call builtin:re.Match.start") => `(tactic| (k_here; k_extra "call builtin:re.Match.start"))
local macro_rules | `(tactic| walk_at "truthy ref") => `(tactic| (k_here; k_extra "truthy ref"))
local macro_rules | `(tactic| walk_at "binaryOp Mult int str") => `(tactic| (k_here; k_extra "binaryOp Mult int str"))
local macro_rules | `(tactic| walk_at "call builtin:int.__new__") => `(tactic| (k_here; k_extra "call builtin:int.__new__"))
local macro_rules | `(tactic| walk_at "call type:int") => `(tactic| (k_here; k_extra "call type:int"))
local macro_rules | `(tactic| walk_at "exec Assign cons ListComp") => `(tactic| (k_here; k_extra "exec Assign cons ListComp"))
local macro_rules | `(tactic| walk_at "eval ListComp") => `(tactic| (k_here; k_extra "eval ListComp"))
local macro_rules | `(tactic| walk_at "call type:enumerate") => `(tactic| (k_here; k_extra "call type:enumerate"))
local macro_rules | `(tactic| walk_at "subscriptTail") => `(tactic| (k_here; k_extra "subscriptTail"))
local macro_rules | `(tactic| walk_at "subscriptTail BinOp") => `(tactic| (k_here; k_extra "subscriptTail"))
local macro_rules | `(tactic| walk_at "compareOp NotEq ref ref") => `(tactic| (k_here; k_extra "compareOp NotEq ref ref"))
local macro_rules | `(tactic| walk_at "compareOp Eq ref ref") => `(tactic| (k_here; k_extra "compareOp Eq ref ref"))
local macro_rules | `(tactic| walk_at "eval Name") => `(tactic| (k_here; (with_reducible show wpAny _ _ (eval (Expr.Name _ _) (compEnvC _ _ _ _)) _ _ _); k_extra "eval Name"))
local macro_rules | `(tactic| walk_at "call builtin:len") => `(tactic| (k_here; k_extra "call builtin:len"))
theorem law_holds : PySem.Challenge.rw_fc0017_01.Holds := by
  refine hd ?_
  intro w s₀ s₁ mg mb G Y fa o pm cd doc dV kV ho hd' hcd hD hmg hg args vals as hpre hlay hrd hwl hlo
  have KX := kIn_of Y
  have X := (Ground.X G).1
  have V := (Ground.X G).2
  refine Ground.open G ?_
  intro T B D TE TW
  obtain ⟨_, _, he, B0⟩ := based_of_top T rfl hmg ho hd'
  have he' : cd = _ := he
  subst he'
  clear he
  wrow_args hpre hlay hrd hwl hlo
  rename Heap.IsList _ _ _ => hL
  rename IntsAre _ _ => hI
  rename_i ns hs1 hs2 hs3 hs4 hs5 w4 w3 l vs w0 ra wl rd rda h63 htr
  have goodT : ∀ s', OldK s₁.heap s'.heap → s'.gens = s₁.gens → s'.os = s₁.os → GoodWG PySem.Challenge.rw_fc0017_01.row.claim (classAt s₀.heap) (ExcName.means s₀.heap) [ofPy (PyData.list (List.map PyData.int ns))] s₁ (.ok (.ret (.bool true))) s' := by
    intro s' k1 k2 k3
    refine ⟨.inl ⟨.bool true, ofPy (.bool true), [], rfl, raisesW_false (by wrow_none_raised), ?r1P00he, ?r2P00he, ?r3P00he⟩, k1, k3, .of_eq (k2.trans hg)⟩
    case r1P00he => first | w_reads | exact readsW_of_reads (by constructor)
    case r2P00he => exact postW_of (by wrow_shape) (by wtm_val) (by str_meet; first | done | w_fin)
    case r3P00he => first | exact unshared_nil | exact fun h => absurd h (by decide)
  have hlen : vs.length ≤ 63 := by rw [hI.length]; omega
  clear rd ra wl rda hs1 hs2 hs3 hs4 hs5 htr Y
  have K0 := below_caller s₁.heap
  have T' : Top hd.view_39 LS (ExcName.means s₀.heap) mg mb s₁.heap := T
  refine ⟨goodT s₁ (OldK.of_keep fun _ _ e => e) rfl rfl, ?_⟩
  have he := Dflts.none hD rfl
  subst he
  have he := Dflts.noKw hD
  subst he
  refine codeC_cellsN (by decide) ho (fd_plain hd') (Top.nolimit T) hcd rfl (kinds_of (by kinds_ok)) (by decide) (fun h₁ tk₁ cells F N0 X0 => ?_) (by rfl) (by rfl) (by rfl)
  have hY := CellsAre.one X0
  obtain ⟨o', hE', d1'⟩ := hY
  subst hE'
  clear X0 hd' hcd hD ho
  dsimp only at F N0 d1' ⊢
  have d0 : o'.data = .cell none := d1'
  clear d1'
  obtain ⟨m0, em, F⟩ : ∃ m₀ : Str → Option Value, m₀ (Str.ofString "script") = some (.ref l) ∧ Fr s₁.heap s₁.heap.objs.size h₁ m₀ := ⟨_, by with_unfolding_all rfl, F⟩
  rw [map_at em] at F
  obtain ⟨news0, hn0, N0⟩ : ∃ n : Led, n = [(s₁.heap.objs.size + 1, o')] ∧ News s₁.heap s₁.heap.objs.size h₁ n := ⟨_, rfl, N0⟩
  have hs : Script s₁.heap l := ⟨vs, ns, hL, hI, by omega⟩
  clear V B D TE TW T hmg B0 hL hI h63 hlen
  change wpC (model prg w) _ _ _ _ _
  refine wpC_cut2 (LwA s₁.heap s₁.heap.objs.size l s₁) ?_ ?_
  · k_fold
    k_with_none
    k_with "call ref" => k_dflt (first
      | ((with_reducible show wpAny _ _ (call (Value.ref 85) _) _ _ _)
         refine' con_use (number_ok hs (by omega) (by omega)) ?k1P01bl ?k2P01bl ?k3P01bl ?k4P01bl ?k5P01bl ?kKP01bl ?kdP01bl ?kuP01bl ?_
         (case k1P01bl => k_asm); (case k2P01bl => k_asm); (case k3P01bl => k_asm); (case k4P01bl => k_asm); (case k5P01bl => k_asm); (case kKP01bl => first | exact rfl | assumption); (case kdP01bl => first | ktr_room | k_room); (case kuP01bl => first | ktr_units | decide)
         intro r9 news9 h9 tk9 F9 N9 g9 p9
         obtain ⟨i9, t9, e9⟩ := p9
         subst e9
         (try dsimp only)
         (try k_fold))
      | ((with_reducible show wpAny _ _ (call (Value.ref 92) _) _ _ _)
         refine' con_use (item_ok hs _ _ _ _ _ (by rfl) (by omega) (by omega)) ?j1P01bl ?j2P01bl ?j3P01bl ?j4P01bl ?j5P01bl ?jKP01bl ?jdP01bl ?juP01bl ?_
         (case j1P01bl => k_asm); (case j2P01bl => k_asm); (case j3P01bl => k_asm); (case j4P01bl => k_asm); (case j5P01bl => k_asm); (case jKP01bl => first | exact rfl | assumption); (case jdP01bl => first | ktr_room | k_room); (case juP01bl => first | ktr_units | decide)
         intro r9 news9 h9 tk9 F9 N9 g9 p9
         obtain ⟨a9, v9, i9, t9, x9, e9, m9, R9, O9, lo9, hi9⟩ := p9
         subst e9
         have N9 := News.dup N9 m9.1
         have g9 := Grown.dup g9 m9.1
         (try dsimp only)
         (try k_fold)))
    k_with "my fit" => (have hq := ItsR.len xs vs1 hR; simp only [List.length_append, List.length_cons, List.length_nil]; unfold sizeLine; omega)
    k_with "pyIter ref" => k_dflt (
      (rename Fr _ _ _ _ => lF); (rename News _ _ _ _ => lN); (rename IsRange _ _ _ _ _ _ _ _ => rgX)
      with_unfolding_all refine' tbr_m (ItemJ 2 0 news0) (by rfl) rgX (by exact small_one (by l_bnd) (by l_bnd) (by l_bnd) (by l_bnd)) (by exact rangeSize_nat _ _) lF lN ?hjP01bl ?turnP01bl ?doneP01bl
      case hjP01bl =>
        refine' ItemJ.start ?h0P01bl ?h1P01bl ?h2P01bl ?h3P01bl
        case h0P01bl => exact Grown.trans (Grown.cons (Grown.cons (Grown.refl _) (by walk_at "my lt")) (by walk_at "my lt")) g9
        case h1P01bl => with_unfolding_all exact rfl
        case h2P01bl => with_unfolding_all exact rfl
        case h3P01bl => exact ⟨g9.sub _ (by walk_at "my mem"), by first | exact ne_of_allLt (allLt_of (by assumption)) | exact ne_of_allLt (by assumption)⟩
      case' turnP01bl =>
        intro i j tj m₁ nx h2 tk2 own hji hoff hJ lF lN
        obtain ⟨g0, hm, l2, vs1, xs, pl, tp, e1, e2, hl2, hR, hO, hlen1, hlo, hhi⟩ := hJ
        have hi2 := rng4_small hji
        have hpl : 0 ≤ pl ∧ pl ≤ 1000 := by omega
        rw [map_form2 _ _ _ e1 e2 hm] at lF
        have lN := News.dup lN (List.mem_append_left own hl2.1)
        have gD : Grown (nx ++ own) ((l2, lstO vs1) :: (nx ++ own)) := Grown.dup (Grown.refl _) (List.mem_append_left own hl2.1)
        (try dsimp only)
        (try k_fold)
      case' doneP01bl =>
        intro m₁ nx h2 tk2 hJ lF lN
        obtain ⟨g0, hm, l2, vs1, xs, pl, tp, e1, e2, hl2, hR, hO, hlen1, hlo, hhi⟩ := hJ
        rw [map_form2 _ _ _ e1 e2 hm] at lF
        (try dsimp only)
        (try k_fold))
    k_steps
    all_goals (try k_data)
    · subst hn0
      obtain ⟨N3, off3, sub3⟩ := cell_first lN (g0.sub _ (.head _))
      have r4 := @rng4_len i9
      refine ⟨_, _, _, _, o', l2, vs1, xs, rfl, lF, N3, d0, off3, ?q1P01bl, ?q2P01bl, sub3 _ hl2, ItsR.mono sub3 _ _ hR, ⟨hO, ?q3P01bl, ?q4P01bl⟩⟩
      case q1P01bl => with_unfolding_all exact rfl
      case q2P01bl => with_unfolding_all exact rfl
      case q3P01bl => intro q; rw [q] at hlen1; simp at hlen1; omega
      case q4P01bl => omega
    · refine' tbEnd_of ?FP01bl ?NP01bl ?subP01bl ?JP01bl
      case FP01bl => k_asm
      case NP01bl => k_asm
      case subP01bl => exact fun p hp => Grown.sub (by walk_at "my grown") p (List.mem_append_right _ hp)
      case JP01bl =>
        refine' ItemJ.next g0 hoff ?gP01bl ?hmP01bl ?e1P01bl ?e2P01bl ?hlP01bl hR ?R9P01bl hO O9 hlen1 hlo hhi lo9 hi9
        case gP01bl => walk_at "my grown"
        case hmP01bl =>
          intro z z1 z2 z3 z4
          have z5 : ([Str.ofString "turn", Str.ofString "item"] : List Str).contains z = false := by simpa using ⟨z3, z4⟩
          simp only [if_neg z1, if_neg z2, if_neg z3, if_neg z4, z5, Bool.false_eq_true, if_false]
        case e1P01bl => with_unfolding_all exact rfl
        case e2P01bl => with_unfolding_all exact rfl
        case hlP01bl => walk_at "my fresh"
        case R9P01bl => exact ItR.mono (fun p hp => ⟨.tail _ (.tail _ (.tail _ hp.1)), fun q hq => hp.2 q (.tail _ hq)⟩) _ _ R9
  clear F N0 hn0 em news0 m0 d0
  rintro s' ⟨h2, tk2, m2, nx, oc, li, vs1, xs, rfl, lF, lN, d2, off2, e1, e2, hl2, hR, hI⟩
  have hlen1 := ItsR.len xs vs1 hR
  have hx4 := hI.le
  rw [map_at e2, map_at e1] at lF
  refine wpC_cut1 (LwB s₁.heap s₁.heap.objs.size l s₁) ?_ ?_
  · k_fold
    have wle := hI.text_le
    have fle := hI.flat_le
    have hO5 := hI.ok
    k_with_none
    k_with "call ref" => k_dflt (first
      | ((with_reducible show wpAny _ _ (call (Value.ref 97) _) _ _ _)
         refine' con_use (written_ok 2 (by omega) _ _ x9 ?kRP02bl hO9) ?k1P02bl ?k2P02bl ?k3P02bl ?k4P02bl ?k5P02bl ?kKP02bl ?kdP02bl ?kuP02bl ?_
         (case k1P02bl => k_asm); (case k2P02bl => k_asm); (case k3P02bl => k_asm); (case k4P02bl => k_asm); (case k5P02bl => k_asm); (case kKP02bl => first | exact rfl | assumption); (case kdP02bl => first | ktr_room | k_room); (case kuP02bl => first | ktr_units | decide)
         case kRP02bl => exact ItR.mono (fun p hp => by walk_at "my mem") _ _ hx9
         intro r9 news9 h9 tk9 F9 N9 g9 p9
         obtain ⟨t9, e9⟩ := p9
         subst e9
         (try dsimp only)
         (try k_fold))
      | ((with_reducible show wpAny _ _ (call (Value.ref 102) _) _ _ _)
         refine' con_use (flat_ok 2 (by omega) _ _ x9 ?jRP02bl hO9) ?j1P02bl ?j2P02bl ?j3P02bl ?j4P02bl ?j5P02bl ?jKP02bl ?jdP02bl ?juP02bl ?_
         (case j1P02bl => k_asm); (case j2P02bl => k_asm); (case j3P02bl => k_asm); (case j4P02bl => k_asm); (case j5P02bl => k_asm); (case jKP02bl => first | exact rfl | assumption); (case jdP02bl => first | ktr_room | k_room); (case juP02bl => first | ktr_units | decide)
         case jRP02bl => exact ItR.mono (fun p hp => by walk_at "my mem") _ _ hx9
         intro r9 news9 h9 tk9 F9 N9 g9 p9
         obtain ⟨t9, e9⟩ := p9
         subst e9
         (try dsimp only)
         (try k_fold)))
    k_with "call builtin:str.join" => k_dflt (first
      | (refine join_call (gs := wrs xs) (by k_asm) (.head _) hysW s_comma (by omega) ?_
         intro t6 k6
         (try dsimp only))
      | (refine join_call (gs := fls xs) (by k_asm) (.head _) hysF s_comma (by omega) ?_
         intro t6 k6
         (try dsimp only)))
    k_with "CompSrc" => k_dflt (first
      | ((with_reducible show LCg.CompSrc _ _ _ _ _ _ _ (Expr.Call (Expr.Name (Str.ofString "_law_written") _) _ _ _) _ _ _ _ _ _)
         refine LCg.CompSrc.ledger (by rfl) (by k_asm) (by k_asm) (k := 0) (its := vs1.toArray) (by walk_at "my mem") (by simp only [List.size_toArray, hlen1]; unfold sizeLine; omega) ?_
         intro g7
         refine' comp_strs ((wrs xs).map SS) (by simp [wrs_eq, hlen1]) ?turnP02bl ?finP02bl
         case' turnP02bl =>
           intro i v I oI C oC D m₂ ys h tk E' y hi hy hv hC hx F N off ne
           have hv' : vs1[i]? = some v := by simpa using hv
           obtain ⟨x9, hx8, hx9⟩ := ItsR.at xs vs1 hR i v hv'
           have hO9 := (Oks_iff xs).mp hO5 x9 (List.mem_of_getElem? hx8)
           have hyx : y = SS (wr x9) := by
             rw [wrs_eq, List.map_map, List.getElem?_map, hx8] at hy
             simpa using hy.symm
           subst hyx
           (try k_fold)
         case' finP02bl =>
           intro ysW hysW
           (unfold LCg.FinE)
           intro D7 h7 tk7 F7 N7 o7
           (try dsimp only))
      | ((with_reducible show LCg.CompSrc _ _ _ _ _ _ _ (Expr.Call (Expr.Name (Str.ofString "_law_flat") _) _ _ _) _ _ _ _ _ _)
         refine LCg.CompSrc.ledger (by rfl) (by k_asm) (by k_asm) (k := 0) (its := vs1.toArray) (by walk_at "my mem") (by simp only [List.size_toArray, hlen1]; unfold sizeLine; omega) ?_
         intro g7
         refine' comp_strs ((fls xs).map SS) (by simp [fls_eq, hlen1]) ?turn2P02bl ?fin2P02bl
         case' turn2P02bl =>
           intro i v I oI C oC D m₂ ys h tk E' y hi hy hv hC hx F N off ne
           have hv' : vs1[i]? = some v := by simpa using hv
           obtain ⟨x9, hx8, hx9⟩ := ItsR.at xs vs1 hR i v hv'
           have hO9 := (Oks_iff xs).mp hO5 x9 (List.mem_of_getElem? hx8)
           have hyx : y = SS (fl x9) := by
             rw [fls_eq, List.map_map, List.getElem?_map, hx8] at hy
             simpa using hy.symm
           subst hyx
           (try k_fold)
         case' fin2P02bl =>
           intro ysF hysF
           (unfold LCg.FinE)
           intro D8 h8 tk8 F8 N8 o8
           (try dsimp only)))
    k_steps
    all_goals (try k_data)
    · rename Fr _ _ _ _ => zF
      rename News _ _ _ _ => zN
      refine' lwB_of zF zN ?c1P02bl d2 off2 ?c2P02bl ?c3P02bl ?c4P02bl hl2 hR hI ?c5P02bl ?c6P02bl ?c7P02bl ?c8P02bl ?c9P02bl
      case c1P02bl => walk_at "my mem"
      case c2P02bl => exact fun p hp => by walk_at "my mem"
      case c3P02bl => with_unfolding_all exact rfl
      case c4P02bl => with_unfolding_all exact rfl
      case c5P02bl => with_unfolding_all exact rfl
      case c6P02bl => with_unfolding_all exact rfl
      case c7P02bl => with_unfolding_all exact rfl
      case c8P02bl => exact .tail _ (.head _)
      case c9P02bl => exact Nat.ne_of_gt (by first | assumption | exact (‹_ ∧ _ ∧ _ < _ ∧ AllLt _ nx›).2.2.1)
    · refine' comp_end ?faP02bl ?fbP02bl ?fcP02bl ?fdP02bl ?feP02bl
      case faP02bl => k_asm
      case fbP02bl => k_asm
      case fcP02bl => walk_at "my grown"
      case fdP02bl => assumption
      case feP02bl => exact .inr ⟨_, by walk_at "my mem", rfl, _, rfl⟩
    · refine' comp_end ?faP02bl ?fbP02bl ?fcP02bl ?fdP02bl ?feP02bl
      case faP02bl => k_asm
      case fbP02bl => k_asm
      case fcP02bl => walk_at "my grown"
      case fdP02bl => assumption
      case feP02bl => exact .inr ⟨_, by walk_at "my mem", rfl, _, rfl⟩
  clear lF lN d2 off2 e1 e2 hl2 hR hI hlen1 hx4 m2
  rintro s' ⟨h3, tk3, m3, nx3, oc3, li3, vs3, xs3, ld3, t13, t23, rfl, lF, lN, d3, off3, e1, e2, hl3, hR3, hI3, e3, e4, e5, hd3⟩
  have hlen3 := ItsR.len xs3 vs3 hR3
  have hx4 := hI3.le
  rw [map_at e5, map_at e4, map_at e3, map_at e2, map_at e1] at lF
  obtain ⟨newsD, hnD, lN⟩ : ∃ n : Led, n = (s₁.heap.objs.size + 1, oc3) :: nx3 ∧ News s₁.heap s₁.heap.objs.size h3 n := ⟨_, rfl, lN⟩
  have hlD : (li3, lstO vs3) ∈ newsD := by rw [hnD]; exact .tail _ hl3
  have hdD : (ld3, lstO []) ∈ newsD := by rw [hnD]; exact .tail _ hd3
  have hcD : (s₁.heap.objs.size + 1, oc3) ∈ newsD := by rw [hnD]; exact .head _
  have hRD : ItsR (· ∈ newsD) xs3 vs3 := ItsR.mono (fun p hp => by rw [hnD]; exact .tail _ hp) _ _ hR3
  clear hnD hl3 hd3 hR3 off3
  refine wpC_cut1 (LwC s₁.heap s₁.heap.objs.size l s₁) ?_ ?_
  · k_fold
    have htl : (tolds xs3).length ≤ 10000 := Nat.le_trans (tolds_le xs3 2 hI3.ok) (Nat.le_trans hI3.cost (by decide))
    k_with_none
    k_with "call ref" => k_dflt (
      (with_reducible show wpAny _ _ (call (Value.ref 109) _) _ _ _)
      refine' con_use (told_ok 2 (by omega) _ _ x9 ?kRP03bl hO9) ?k1P03bl ?k2P03bl ?k3P03bl ?k4P03bl ?k5P03bl ?kKP03bl ?kdP03bl ?kuP03bl ?_
      (case k1P03bl => k_asm); (case k2P03bl => k_asm); (case k3P03bl => k_asm); (case k4P03bl => k_asm); (case k5P03bl => k_asm); (case kKP03bl => first | exact rfl | assumption); (case kdP03bl => first | ktr_room | k_room); (case kuP03bl => first | ktr_units | decide)
      case kRP03bl => exact ItR.mono (fun p hp => by walk_at "my mem") _ _ hx9
      intro r9 news9 h9 tk9 F9 N9 g9 p9
      obtain ⟨l9, vs9, e9, m9, st9⟩ := p9
      subst e9
      have N9 := News.dup N9 m9.1
      have g9 := Grown.dup g9 m9.1
      (try dsimp only)
      (try k_fold))
    k_with "my fit" => (have q1 := strs_len hst; have q2 := strs_len st9; rw [List.length_map] at q1 q2; unfold sizeLine; omega)
    k_with "pyIter ref" => k_dflt (
      (rename Fr _ _ _ _ => lF); (rename News _ _ _ _ => lN)
      with_unfolding_all refine' val_loop (vs := vs3) (DueJ xs3 newsD) (by rfl) ?hmP03bl lF lN ?hjP03bl ?turnP03bl ?doneP03bl
      case hmP03bl => walk_at "my mem"
      case hjP03bl =>
        refine' DueJ.start ?h0P03bl ?h1P03bl ?h3P03bl
        case h0P03bl => walk_at "my grown"
        case h1P03bl => with_unfolding_all exact rfl
        case h3P03bl => walk_at "my mem"
      case' turnP03bl =>
        intro i v m₁ nx h2 tk2 own I hv hI hi hex hJ lF lN
        obtain ⟨g0, hm1, l2, us, e1, hl2, hst⟩ := hJ
        obtain ⟨x9, hx8, hx9⟩ := ItsR.at xs3 vs3 hRD i v hv
        have hO9 := (Oks_iff xs3).mp hI3.ok x9 (List.mem_of_getElem? hx8)
        have htx9 : (told x9).length ≤ 10000 := by
          have q1 := told_le x9 2 hO9
          have q2 := cost_le x9 2 hO9
          have q3 : cb 2 = 808 := by decide
          omega
        have htk : (tolds (xs3.take i)).length ≤ 10000 := by
          have : (tolds xs3) = tolds (xs3.take i) ++ tolds (xs3.drop i) := by rw [tolds_eq, tolds_eq, tolds_eq, ← List.flatMap_append, List.take_append_drop]
          rw [this, List.length_append] at htl
          omega
        have lN0 := lN
        rw [map_form1 _ _ e1 hm1] at lF
        have lN := News.dup lN (List.mem_append_left own hl2)
        have gD : Grown (nx ++ own) ((l2, lstO us) :: (nx ++ own)) := Grown.dup (Grown.refl _) (List.mem_append_left own hl2)
        have gN : Grown newsD (nx ++ own) → True := fun _ => trivial
        have hx9 := ItR.mono (S' := (· ∈ nx ++ own)) (fun p hp => List.mem_append_left own (g0.sub p hp)) _ _ hx9
        (try dsimp only)
        (try k_fold)
      case' doneP03bl =>
        intro m₁ nx h2 tk2 hJ lF lN
        obtain ⟨g0, hm1, l2, us, e1, hl2, hst⟩ := hJ
        rw [map_form1 _ _ e1 hm1] at lF
        (try dsimp only)
        (try k_fold))
    k_steps
    all_goals (try k_data)
    · have e7 : xs3.take vs3.length = xs3 := by rw [hlen3, List.take_length]
      rw [e7] at hst
      refine' lwC_of lF lN ?c1P03bl d3 ?c2P03bl hI3 ?c3P03bl ?c4P03bl ?c5P03bl hl2 hst
      case c1P03bl => exact g0.sub _ hcD
      case c2P03bl => with_unfolding_all exact rfl
      case c3P03bl => with_unfolding_all exact rfl
      case c4P03bl => with_unfolding_all exact rfl
      case c5P03bl => with_unfolding_all exact rfl
    · refine' vEnd_of ?eaP03bl ?ebP03bl ?ecP03bl ?edP03bl
      case eaP03bl => k_asm
      case ebP03bl => k_asm
      case ecP03bl => exact fun p hp => Grown.sub (by walk_at "my grown") p (List.mem_append_right nx hp)
      case edP03bl =>
        refine' DueJ.next g0 hI hlD lN0 hi hex hst st9 hx8 ?gP03bl ?m1P03bl ?m2P03bl ?m3P03bl
        case gP03bl => walk_at "my grown"
        case m1P03bl =>
          intro z z1 z3
          have z2 : ([Str.ofString "one"] : List Str).contains z = false := by simpa using z3
          simp only [if_neg z1, if_neg z3, z2, Bool.false_eq_true, if_false]
        case m2P03bl => with_unfolding_all exact rfl
        case m3P03bl => walk_at "my fresh"
  clear lF lN newsD hlD hdD hcD hRD hlen3 hx4 m3 e1 e2 e3 e4 e5 d3 hI3
  rintro s' ⟨h4, tk4, m4, nx4, oc4, xs, ld, us, t14, t24, rfl, lF, lN, d4, off4, e1, hI, e3, e4, e5, hd4, hst4⟩
  rw [map_at e5, map_at e4, map_at e3, map_at e1] at lF
  have wle := hI.text_le
  have fle := hI.flat_le
  refine wpC_cut2 (LwD s₁.heap s₁.heap.objs.size l s₁) ?_ ?_
  · k_fold
    have tEnds : Ends 100000 (joinC (wrs xs)) (some (joinC (fls xs))) := hI.text_ends
    have fEnds : Ends 100000 (joinC (fls xs)) (some (joinC (fls xs))) := hI.flat_ends
    k_with_none
    k_with "call ref" => k_dflt (first
      | ((with_reducible show wpAny _ _ (call (Value.ref 85) _) _ _ _)
         refine' con_use (number_ok hs (by omega) (by omega)) ?k1P04bl ?k2P04bl ?k3P04bl ?k4P04bl ?k5P04bl ?kKP04bl ?kdP04bl ?kuP04bl ?_
         (case k1P04bl => k_asm); (case k2P04bl => k_asm); (case k3P04bl => k_asm); (case k4P04bl => k_asm); (case k5P04bl => k_asm); (case kKP04bl => first | exact rfl | assumption); (case kdP04bl => first | ktr_room | k_room); (case kuP04bl => first | ktr_units | decide)
         intro r9 news9 h9 tk9 F9 N9 g9 p9
         obtain ⟨i9, t9, e9⟩ := p9
         subst e9
         (try dsimp only)
         (try k_fold))
      | ((with_reducible show wpAny _ _ (call (Value.ref 77) _) _ _ _)
         first
         | refine' con_use ((expand_walk tEnds (by omega)).con (by simp)) ?j1P04bl ?j2P04bl ?j3P04bl ?j4P04bl ?j5P04bl ?jKP04bl ?jdP04bl ?juP04bl ?_
         | refine' con_use ((expand_walk fEnds (by omega)).con (by simp)) ?j1P04bl ?j2P04bl ?j3P04bl ?j4P04bl ?j5P04bl ?jKP04bl ?jdP04bl ?juP04bl ?_
         (case j1P04bl => k_asm); (case j2P04bl => k_asm); (case j3P04bl => k_asm); (case j4P04bl => k_asm); (case j5P04bl => k_asm); (case jKP04bl => first | exact rfl | assumption); (case jdP04bl => first | ktr_room | k_room); (case juP04bl => first | ktr_units | decide)
         intro r9 news9 h9 tk9 F9 N9 g9 p9
         obtain ⟨z9, t9, hz9, e9⟩ := p9
         injection hz9 with hz9
         subst hz9
         subst e9
         (try dsimp only)
         (try k_fold)))
    k_steps
    all_goals (try k_data)
    all_goals first | (exfalso; rename_i q; simp at q; done) | skip
    rename Fr _ _ _ _ => zF
    rename News _ _ _ _ => zN
    have hcz : (s₁.heap.objs.size + 1, oc4) ∈ news9 := by walk_at "my mem"
    have hdz : (ld, lstO us) ∈ news9 := by walk_at "my mem"
    obtain ⟨N3, off3, sub3⟩ := cell_first zN hcz
    refine' storeX_C zF N3 ?zc1P04bl (UpdF.head off3) d4 ?_ ?zc2P04bl ?zc3P04bl
    case zc1P04bl => rfl
    case zc2P04bl => rfl
    case zc3P04bl => rfl
    intro h' o5 F5 N5 d5
    (try k_unfold)
    (try dsimp only)
    k_steps
    all_goals (try k_data)
    refine' lwD_of F5 zN hcz d4 N5 d5 (fmod_lo _ (by decide)) (fmod_hi _ (by decide)) ?y1P04bl hI ?y3P04bl ?y4P04bl ?y5P04bl hdz hst4
    case y1P04bl => with_unfolding_all exact rfl
    case y3P04bl => with_unfolding_all exact rfl
    case y4P04bl => with_unfolding_all exact rfl
    case y5P04bl => with_unfolding_all exact rfl
  clear lF lN m4 nx4 e1 e3 e4 e5 d4 hI off4 hd4 hst4 wle fle
  rintro s' ⟨h5, tk5, m5, nx5, oc5, xs, ld, us, t15, t25, st, t35, rfl, lF, lN, d5, hst0, hst7, off5, e1, hI, e3, e4, e5, hd5, hst5⟩
  rw [map_at e5, map_at e4, map_at e3, map_at e1] at lF
  have wle := hI.text_le
  have fle := hI.flat_le
  obtain ⟨newsE, hcE, hdE, lN⟩ : ∃ n : Led, (s₁.heap.objs.size + 1, oc5) ∈ n ∧ (ld, lstO us) ∈ n ∧ News s₁.heap s₁.heap.objs.size h5 n := ⟨_, .head _, .tail _ hd5, lN⟩
  clear off5 hd5
  refine wpC_cut1 (LwS s₁.heap s₁.heap.objs.size l s₁ xs ld us st fun m => ∃ wl t5, m (Str.ofString "wide") = some (.str (SS wl) t5) ∧ noBlank wl = joinC (wrs xs) ∧ wl.length ≤ 20000) ?_ ?_
  · k_fold
    have tEq : (SS (joinC (wrs xs))).cps.size = (joinC (wrs xs)).length := SS_len _
    k_with_none
    k_with "eval ListComp" => k_dflt (refine ListComp_En (by k_asm) (by with_unfolding_all rfl) (by decide) (by rfl) (by decide) (by rfl) (by rfl) (by decide) ?_ (fun _ => rfl))
    k_with "call type:enumerate" => k_dflt (
      refine call_enumerate_str ?_
      intro h7 he7 hit7 hsz7 hk7
      (try k_unfold)
      (try dsimp only)
      rename Fr _ _ _ _ => eF
      rename News _ _ _ _ => eN
      refine ⟨_, _, _, _, fun i ys => StrsAre ys ((wdl st 0 ((joinC (wrs xs)).take i)).map SS), rfl, by rfl, enSrc_str (by rfl) eF eN he7 hit7 hsz7 hk7, ?enSP05bl, ?enZP05bl, ?enTP05bl, ?enFP05bl⟩
      case enSP05bl => rw [tEq]; unfold sizeLine; omega
      case enZP05bl => (show StrsAre [] ((wdl st 0 ((joinC (wrs xs)).take 0)).map SS); rw [List.take_zero]; exact .nil)
      case' enTP05bl =>
        intro i x ti ys own C D oC m₂ h tk E' hi hP hG hCl ha hb F N hCD off
        obtain ⟨c, u, hc, rfl⟩ := hP
        (try dsimp only at hG)
        have c9 : (⟨#[c]⟩ : Str).length ≤ 1 := Nat.le_refl _
        have hcO : (s₁.heap.objs.size + 1, oc5) ∈ own ++ newsE := List.mem_append_right _ hcE
        have hc' : (joinC (wrs xs))[i]? = some c := by simpa [SS] using hc
        (try dsimp only)
        (try k_fold)
      case' enFP05bl =>
        intro ys D h tk hG N off F
        (try dsimp only at hG)
        rw [tEq, List.take_length] at hG
        (try k_unfold)
        (try dsimp only))
    k_with "eval Name" => k_dflt (first
      | ((with_reducible show wpAny _ _ (eval (Expr.Name (Str.ofString "start") _) _) _ _ _)
         refine' lcf_cell ?fNP05bl ?fcP05bl ?fmP05bl ?fdP05bl ?_ ?faP05bl ?fbP05bl; (case faP05bl => rfl); (case fbP05bl => rfl); (case fNP05bl => k_asm); (case fcP05bl => rfl); (case fmP05bl => walk_at "my mem"); (case fdP05bl => exact d5))
      | refine PySem.W.LCgL.ld_own (by k_asm) (by walk_at "my mem") (by assumption) (by assumption) ?_)
    k_with "subscriptTail" => k_dflt (
      rename News _ _ _ _ => iN
      refine' PySem.W.KTb.item_list (ws := blkS) ?iLP05bl ?iWP05bl (fmod_lo _ (by decide)) ?i1P05bl ?i2P05bl ?_ ?i3P05bl
      case iLP05bl => exact ⟨_, (iN _ (.head _)).1, rfl, _, rfl⟩
      case iWP05bl => exact .cons _ _ (.cons _ _ (.cons _ _ (.cons _ _ (.cons _ _ (.cons _ _ (.cons _ _ .nil))))))
      case i1P05bl => exact fmod_hi _ (by decide)
      case i2P05bl => exact Int.lt_trans (fmod_hi _ (by decide)) (by decide)
      case i3P05bl => with_unfolding_all rfl
      intro t9 hlt9
      rw [blk_str]
      have b9 : (SS (blk ((i : Int) + st))).length ≤ 2 := by rw [SS_len]; exact (blk_ok _).1
      (try dsimp only))
    k_with "call builtin:str.join" => k_dflt (
      refine cat_call (gs := wdl st 0 (joinC (wrs xs))) (by k_asm) (.head _) hG (by have := (len_wdl st (joinC (wrs xs)) 0).1; omega) ?_
      intro t6 k6
      (try dsimp only))
    k_steps
    all_goals (try k_data)
    · rename Fr _ _ _ _ => zF
      rename News _ _ _ _ => zN
      refine' lwS_of zF zN (.tail _ hcE) d5 ?y1P05bl ?y2P05bl ?y3P05bl ?y4P05bl (.tail _ hdE) ⟨(wdl st 0 (joinC (wrs xs))).flatten, t6, ?y5P05bl, ?y6P05bl, ?y7P05bl⟩
      case y1P05bl => with_unfolding_all exact rfl
      case y2P05bl => with_unfolding_all exact rfl
      case y3P05bl => with_unfolding_all exact rfl
      case y4P05bl => with_unfolding_all exact rfl
      case y5P05bl => with_unfolding_all exact rfl
      case y6P05bl => rw [noBlank_wdl, clean_eq hI.clean_text]
      case y7P05bl => have := (len_wdl st (joinC (wrs xs)) 0).1; omega
    · refine' enEnd_of ?z1P05bl iN ?z2P05bl ?z3P05bl
      case z1P05bl => assumption
      case z2P05bl => exact fun p hp => .tail _ hp
      case z3P05bl => exact wide_next hc' hG
  clear lF lN hcE hdE newsE d5 e1 e3 e4 e5
  rintro s' ⟨h6, tk6, m6, newsE, oc5, t15, t25, t35, rfl, lF, lN, hcE, d5, e1, e3, e4, e5, hdE, wl, t55, e6, hwl, hwl2⟩
  rw [map_at e6, map_at e5, map_at e4, map_at e3, map_at e1] at lF
  have tEnds : Ends 100000 (joinC (wrs xs)) (some (joinC (fls xs))) := hI.text_ends
  have fEnds : Ends 100000 (joinC (fls xs)) (some (joinC (fls xs))) := hI.flat_ends
  refine wpC_cut1 (LwS s₁.heap s₁.heap.objs.size l s₁ xs ld us st fun _ => True) ?_ ?_
  · k_fold
    have wEnds : Ends 100000 (noBlank wl) (some (joinC (fls xs))) := by rw [hwl]; exact tEnds
    have xEnds : Ends 100000 (noBlank (joinC (wrs xs))) (some (joinC (fls xs))) := by rw [clean_eq hI.clean_text]; exact tEnds
    have gEnds : Ends 100000 (noBlank (joinC (fls xs))) (some (joinC (fls xs))) := by rw [clean_eq hI.clean_flat]; exact fEnds
    have tColl : ∀ z, some (joinC (fls xs)) = some z → z.length ≤ 100000 ∧ CollM (splitC z) (some (tolds xs)) := by
      intro z hz
      injection hz with hz
      subst hz
      exact ⟨by omega, hI.told_coll.toM rfl⟩
    have okD := hI.told_strOk
    k_with_none
    k_with "call ref" => k_dflt (
      (with_reducible show wpAny _ _ (call (Value.ref 65) _) _ _ _)
      first
      | refine' con_use ((pre_try (x := wl) (by omega) wEnds tColl).con (by simp)) ?j1P06bl ?j2P06bl ?j3P06bl ?j4P06bl ?j5P06bl ?jKP06bl ?jdP06bl ?juP06bl ?_
      | refine' con_use ((pre_try (x := joinC (wrs xs)) (by omega) xEnds tColl).con (by simp)) ?j1P06bl ?j2P06bl ?j3P06bl ?j4P06bl ?j5P06bl ?jKP06bl ?jdP06bl ?juP06bl ?_
      | refine' con_use ((pre_try (x := joinC (fls xs)) (by omega) gEnds tColl).con (by simp)) ?j1P06bl ?j2P06bl ?j3P06bl ?j4P06bl ?j5P06bl ?jKP06bl ?jdP06bl ?juP06bl ?_
      (case j1P06bl => k_asm); (case j2P06bl => k_asm); (case j3P06bl => k_asm); (case j4P06bl => k_asm); (case j5P06bl => k_asm); (case jKP06bl => first | exact rfl | assumption); (case jdP06bl => first | ktr_room | k_room); (case juP06bl => first | ktr_units | decide)
      intro r9 news9 h9 tk9 F9 N9 g9 p9
      obtain ⟨q9, ht9, l9, vs9, n9, e9, m9, st9⟩ := p9
      injection ht9 with ht9
      subst ht9
      subst e9
      have mm9 := m9.1
      (try dsimp only)
      (try k_fold))
    k_with "compareOp NotEq ref ref" => k_dflt (
      (with_reducible show wpAny _ _ (compareOp CmpOp.NotEq (Value.ref _) (Value.ref _)) _ _ _)
      rename News _ _ _ _ => iN
      refine' ne_strsL (ns := (tolds xs).map SS) ?q1P06bl st9 ?q2P06bl hst5 okD ?q3P06bl ?_
      case q1P06bl => exact ⟨_, (iN _ mm9).1, rfl, _, rfl⟩
      case q2P06bl => exact ⟨_, (iN (ld, lstO us) (by walk_at "my mem")).1, rfl, _, rfl⟩
      case q3P06bl => first | ktr_units | decide
      (try dsimp only))
    k_steps
    all_goals (try k_data)
    rename Fr _ _ _ _ => zF
    rename News _ _ _ _ => zN
    refine' lwS_of zF zN ?y0P06bl d5 ?y1P06bl ?y2P06bl ?y3P06bl ?y4P06bl ?y5P06bl trivial
    case y0P06bl => walk_at "my mem"
    case y1P06bl => with_unfolding_all exact rfl
    case y2P06bl => with_unfolding_all exact rfl
    case y3P06bl => with_unfolding_all exact rfl
    case y4P06bl => with_unfolding_all exact rfl
    case y5P06bl => walk_at "my mem"
  clear lF lN hcE hdE newsE d5 e1 e3 e4 e5 e6 hwl hwl2
  rintro s' ⟨h7, tk7, m7, newsE, oc5, t15, t25, t35, rfl, lF, lN, hcE, d5, e1, e3, e4, e5, hdE, -⟩
  rw [map_at e5, map_at e4, map_at e3, map_at e1] at lF
  refine wpC_cut3 (LwS s₁.heap s₁.heap.objs.size l s₁ xs ld us st fun m => ∃ u v t6 t7, joinC (wrs xs) ++ [44, 40, 117, 56, 41] = u ++ 41 :: v ∧ m (Str.ofString "whole") = some (.str (SS (u ++ 41 :: v)) t6) ∧ m (Str.ofString "cut") = some (.int (u.length : Nat) t7)) ?_ ?_
  · k_fold
    have tLen : (SS (joinC (wrs xs))).length ≤ 3300 := by rw [SS_len]; exact wle
    obtain ⟨W, hW⟩ : ∃ W, W = joinC (wrs xs) ++ [44, 40, 117, 56, 41] := ⟨_, rfl⟩
    have wLen : W.length ≤ 3400 := by rw [hW, List.length_append]; simp; omega
    have wEq : (SS W).cps.size = W.length := SS_len _
    have sW : SS (joinC (wrs xs)) ++ Str.ofString ",(u8)" = SS W := by rw [hW]; exact s_whole _
    k_with_none
    k_with "call ref" => k_dflt (
      (with_reducible show wpAny _ _ (call (Value.ref 85) _) _ _ _)
      refine' con_use (number_ok hs (by omega) (by omega)) ?k1P07bl ?k2P07bl ?k3P07bl ?k4P07bl ?k5P07bl ?kKP07bl ?kdP07bl ?kuP07bl ?_
      (case k1P07bl => k_asm); (case k2P07bl => k_asm); (case k3P07bl => k_asm); (case k4P07bl => k_asm); (case k5P07bl => k_asm); (case kKP07bl => first | exact rfl | assumption); (case kdP07bl => first | ktr_room | k_room); (case kuP07bl => first | ktr_units | decide)
      intro r9 news9 h9 tk9 F9 N9 g9 p9
      obtain ⟨i9, t9, e9⟩ := p9
      subst e9
      (try dsimp only)
      (try k_fold))
    k_with "exec Assign cons ListComp" => k_dflt (refine Assign_En (by k_asm) (by rfl) (by with_unfolding_all rfl) (by with_unfolding_all rfl) (by decide) (by rfl) (by decide) (by rfl) (by rfl) (by decide) (by rfl) (by rfl) ?_ (fun _ => rfl))
    k_with "call type:enumerate" => k_dflt (
      rename Fr _ _ _ _ => eF
      rw [sW] at eF ⊢
      refine call_enumerate_str ?_
      intro h7 he7 hit7 hsz7 hk7
      (try k_unfold)
      (try dsimp only)
      rename News _ _ _ _ => eN
      refine ⟨_, _, _, _, fun i ys => PosAre ys (posl 0 (W.take i)), rfl, by rfl, enSrc_str (by rfl) eF eN he7 hit7 hsz7 hk7, ?enSP07bl, ?enZP07bl, ?enTP07bl, ?enFP07bl⟩
      case enSP07bl => rw [wEq]; unfold sizeLine; omega
      case enZP07bl => (show PosAre [] (posl 0 (W.take 0)); rw [List.take_zero]; exact ⟨.nil⟩)
      case' enTP07bl =>
        intro i x ti ys own C D oC m₂ h tk E' hi hP hG hCl ha hb F N hCD off
        obtain ⟨c, u, hc, rfl⟩ := hP
        (try dsimp only at hG)
        have hc' : W[i]? = some c := by simpa [SS] using hc
        (try dsimp only)
        (try k_fold)
      case' enFP07bl =>
        intro ys D h tk hG N off F
        (try dsimp only at hG)
        rw [wEq, List.take_length] at hG
        have yLen : ys.length = (posl 0 W).length := hG.is.length
        have yMax := posl_len W 0
        have yPos : 0 < ys.length := by
          rw [yLen]
          have e : W = (joinC (wrs xs) ++ [44, 40, 117, 56]) ++ 41 :: [] := by rw [hW, List.append_assoc]; rfl
          exact List.length_pos_iff.mpr (by rw [e]; exact posl_some _ _ _)
        have yNe : ((ys.length : Nat) : Int) ≠ 0 := by omega
        have yP : (0 : Int) < ((ys.length : Nat) : Int) := by omega
        (try k_unfold)
        (try dsimp only))
    k_with "eval Name" => k_dflt (refine PySem.W.LCgL.ld_own (by k_asm) (by walk_at "my mem") (by assumption) (by assumption) ?_)
    k_with "call builtin:len" => k_dflt (
      rename News _ _ _ _ => iN
      refine len_list (items := ys.toArray) ⟨_, (iN (D, LCg.lst ys) (by walk_at "my mem")).1, rfl, _, rfl⟩ (by rw [List.size_toArray]; omega) ?_
      rw [List.size_toArray]
      (try dsimp only))
    k_with "subscriptTail" => k_dflt (
      rename News _ _ _ _ => iN
      have hk9 := fmod_hi i9 yP
      have hk8 := fmod_lo i9 yP
      refine' item_list_ints (ns := posl 0 W) ?iLP07bl hG.is hk8 ?i1P07bl ?i2P07bl ?_ ?i3P07bl ?i4P07bl
      case iLP07bl => exact ⟨_, (iN (D, LCg.lst ys) (by walk_at "my mem")).1, rfl, _, rfl⟩
      case i1P07bl => rw [← yLen]; exact hk9
      case i2P07bl => omega
      case i3P07bl => with_unfolding_all rfl
      case i4P07bl => intro _; with_unfolding_all rfl
      intro t8
      have hm8 : (posl 0 W).getD (Int.fmod i9 (ys.length : Nat)).toNat 0 ∈ posl 0 W := by
        have h8 : (Int.fmod i9 (ys.length : Nat)).toNat < (posl 0 W).length := by omega
        rw [List.getD_eq_getElem?_getD, List.getElem?_eq_getElem h8]
        exact List.getElem_mem h8
      obtain ⟨u8, v8, eu, ez⟩ := posl_mem W 0 _ hm8
      rw [ez, Nat.zero_add]
      (try dsimp only))
    k_steps
    all_goals (try k_data)
    · rename Fr _ _ _ _ => zF
      rename News _ _ _ _ => zN
      refine' lwS_of zF zN ?y0P07bl d5 ?y1P07bl ?y2P07bl ?y3P07bl ?y4P07bl ?y5P07bl ⟨u8, v8, _, _, ?y6P07bl, ?y7P07bl, ?y8P07bl⟩
      case y0P07bl => walk_at "my mem"
      case y1P07bl => with_unfolding_all exact rfl
      case y2P07bl => with_unfolding_all exact rfl
      case y3P07bl => with_unfolding_all exact rfl
      case y4P07bl => with_unfolding_all exact rfl
      case y5P07bl => walk_at "my mem"
      case y6P07bl => rw [← hW]; exact eu
      case y7P07bl => rw [← eu]; with_unfolding_all exact rfl
      case y8P07bl => with_unfolding_all exact rfl
    · rename_i q9
      (try dsimp only)
      refine' enEnd_of ?z1P07bl N ?z2P07bl ?z3P07bl
      case z1P07bl => assumption
      case z2P07bl => exact fun p hp => hp
      case z3P07bl => exact pos_yes hc' q9 hG
    · rename_i q9
      (try dsimp only)
      refine' enEnd_of ?z1P07bl N ?z2P07bl ?z3P07bl
      case z1P07bl => assumption
      case z2P07bl => exact fun p hp => hp
      case z3P07bl => exact pos_no hc' (fun e => by rw [q9] at e; cases e) hG
  clear lF lN hcE hdE newsE d5 e1 e3 e4 e5
  rintro s' ⟨h8, tk8, m8, newsE, oc5, t15, t25, t35, rfl, lF, lN, hcE, d5, e1, e3, e4, e5, hdE, u, v, t65, t75, euv, e6, e7⟩
  rw [map_at e7, map_at e6, map_at e5, map_at e4, map_at e3, map_at e1] at lF
  obtain ⟨o116, fd116, hfo, hfd⟩ : ∃ o fd, (hd.heap_39 w.params).lookup 116 = some o ∧ o.data = .func fd := ⟨_, _, by k_is, rfl⟩
  have p77 : ∃ o fd, (hd.heap_39 w.params).lookup 77 = some o ∧ o.data = .func fd := ⟨_, _, by k_is, rfl⟩
  have p65 : ∃ o fd, (hd.heap_39 w.params).lookup 65 = some o ∧ o.data = .func fd := ⟨_, _, by k_is, rfl⟩
  have tLen : (SS (joinC (wrs xs))).length ≤ 3300 := by rw [SS_len]; exact wle
  have uvLen : (SS (u ++ 41 :: v)).length ≤ 3400 := by
    rw [SS_len, ← euv, List.length_append]
    simp only [List.length_cons, List.length_nil]
    omega
  refine wpC_execs_cons ?_
  with_unfolding_all refine' wpC_For (h₀ := s₁.heap) ?w1P08pr ?w2P08pr ?w3P08pr ?w4P08pr ?w5P08pr
  case w2P08pr => rfl
  case w3P08pr => rfl
  case w4P08pr => exact fun _ => rfl
  case w5P08pr => passes_own
  k_fold
  k_with_none
  k_with "pyIter ref" => k_dflt (
    (rename Fr _ _ _ _ => lF); (rename News _ _ _ _ => lN)
    rw [slice_to, slice_on rfl, SS_append, s_star2, s_ustar2] at lN
    with_unfolding_all refine' odd_loopC (by rfl) (.head _) lF lN ?oturnP08pr ?odoneP08pr
    case' oturnP08pr =>
      intro i9 v9 m9 h9 tk9 own hv9 hm9 tF tN
      obtain ⟨X, tX, rfl, hXl, hXe, hXb⟩ := odd_texts hI euv hv9
      refine wpC_execs_cons (wpC_If (wpC_isTrue_Or (wpC_isTrue_Not (wpC_isTrue_Call (wpC_Call_fn1 ?_)))))
      (try k_fold)
    case' odoneP08pr =>
      intro m9 h9 tk9 hm9 tF tN
      (try k_unfold)
      (try dsimp only))
  k_steps
  all_goals (try k_data)
  rotate_left
  · exact (KX.keeps (Fr.keep tF)) _ _ hfo
  · obtain ⟨o77, fd77, q1, q2⟩ := p77
    refine' refused_walk q1 q2 (expand_refuses hXe hXl) KX T' K0 tF KX tN T' ?b6P08pr ?b7P08pr ?b8P08pr ?b9P08pr
    case b6P08pr => exact rfl
    case b7P08pr => first | ktr_room | k_room
    case b8P08pr => first | ktr_units | decide
    case b9P08pr =>
      clear q1 q2
      intro h10 tk10 F10 N10
      (try dsimp only)
      (try k_fold)
      k_steps
      all_goals (try k_data)
      refine wpC_isTrue_Not (wpC_isTrue_Call (wpC_Call_fn1 ?_))
      (try k_fold)
      k_steps
      all_goals (try k_data)
      · exact (KX.keeps (Fr.keep F10)) _ _ hfo
      · obtain ⟨o65, fd65, q1, q2⟩ := p65
        refine' refused_walk q1 q2 (pre_refuses hXe hXl hXb) KX T' K0 F10 KX N10 T' ?c6P08pr ?c7P08pr ?c8P08pr ?c9P08pr
        case c6P08pr => exact rfl
        case c7P08pr => first | ktr_room | k_room
        case c8P08pr => first | ktr_units | decide
        case c9P08pr =>
          intro h11 tk11 F11 N11
          (try dsimp only)
          (try k_fold)
          k_steps
          all_goals (try k_data)
          refine wpC_nil ?_
          (try dsimp only)
          refine wpC_nil ?_
          exact oddEnd_of F11 (fun z hz => (if_neg hz).trans (hm9 z hz)) N11 fun p hp => hp
  have f3 : m9 (Str.ofString "text") = some (.str (SS (joinC (wrs xs))) t15) := (hm9 _ (by decide)).trans (by with_unfolding_all rfl)
  have f5 : m9 (Str.ofString "due") = some (.ref ld) := (hm9 _ (by decide)).trans (by with_unfolding_all rfl)
  clear hm9 lF lN e1 e3 e4 e5 e6 e7
  rw [map_at f5, map_at f3] at tF
  obtain ⟨newsF, hcF, hdF, sN⟩ : ∃ n : Led, (s₁.heap.objs.size + 1, oc5) ∈ n ∧ (ld, lstO us) ∈ n ∧ News s₁.heap s₁.heap.objs.size h9 n := ⟨_, .tail _ hcE, .tail _ hdE, tN⟩
  clear tN
  have sN := News.dup sN hcF
  refine wpC_execs_cons ?_
  with_unfolding_all refine' wpC_For (h₀ := s₁.heap) ?v1P09pr ?v2P09pr ?v3P09pr ?v4P09pr ?v5P09pr
  case v2P09pr => rfl
  case v3P09pr => rfl
  case v4P09pr => exact fun _ => rfl
  case v5P09pr => passes_own
  k_fold
  k_with_none
  k_with "pyIter ref" => k_dflt (
    (rename Fr _ _ _ _ => lF); (rename News _ _ _ _ => lN)
    rw [s_minus hst0 hst7, s_x, s_23] at lN
    with_unfolding_all refine' odd_loopC (by rfl) (.head _) lF lN ?pturnP09pr ?pdoneP09pr
    case' pturnP09pr =>
      intro i9 v9 m9 h9 tk9 own hv9 hm9 tF tN
      obtain ⟨O, tO, rfl, hOl, hOe, hOc⟩ := odd_two hI (by omega) (by omega) hv9
      have oLen : (SS O).length ≤ 100 := by rw [SS_len]; exact hOl
      have f3 : m9 (Str.ofString "text") = some (.str (SS (joinC (wrs xs))) t15) := (hm9 _ (by decide)).trans (by with_unfolding_all rfl)
      have ts := map_at f3
      rw [ts] at tF
      refine wpC_execs_cons (wpC_If (wpC_isTrue_Or (wpC_isTrue_Not (wpC_isTrue_Call (wpC_Call_fn1 ?_)))))
      (try k_fold)
    case' pdoneP09pr =>
      intro m9 h9 tk9 hm9 tF tN
      (try k_unfold)
      (try dsimp only))
  k_steps
  all_goals (try k_data)
  rotate_left
  · exact (KX.keeps (Fr.keep tF)) _ _ hfo
  · obtain ⟨o65, fd65, q1, q2⟩ := p65
    rw [s_odd]
    refine' refused_walk q1 q2 (fun news => hOc w _ _ news) KX T' K0 tF KX tN T' ?d6P09pr ?d7P09pr ?d8P09pr ?d9P09pr
    case d6P09pr => exact rfl
    case d7P09pr => first | ktr_room | k_room
    case d8P09pr => first | ktr_units | decide
    case d9P09pr =>
      clear q1 q2
      intro h10 tk10 F10 N10
      (try dsimp only)
      (try k_fold)
      k_with_none
      k_steps
      all_goals (try k_data)
      refine wpC_of ?_
      k_fold
      k_with "call ref" => k_dflt (
        (with_reducible show wpAny _ _ (call (Value.ref 77) _) _ _ _)
        refine' con_use ((expand_walk hOe (by omega)).con (by simp)) ?j1P09pr ?j2P09pr ?j3P09pr ?j4P09pr ?j5P09pr ?jKP09pr ?jdP09pr ?juP09pr ?_
        (case j1P09pr => k_asm); (case j2P09pr => k_asm); (case j3P09pr => k_asm); (case j4P09pr => k_asm); (case j5P09pr => k_asm); (case jKP09pr => first | exact rfl | assumption); (case jdP09pr => first | ktr_room | k_room); (case juP09pr => first | ktr_units | decide)
        intro r11 news11 h11 tk11 F11 N11 g11 p11
        obtain ⟨z11, t11, hz11, e11⟩ := p11
        injection hz11 with hz11
        subst hz11
        subst e11
        (try dsimp only)
        (try k_fold))
      k_steps
      all_goals (try k_data)
      · exfalso
        rename_i q
        simp at q
      · rename Fr _ _ _ _ => zF
        rename News _ _ _ _ => zN
        refine wpC_nil ?_
        (try dsimp only)
        refine wpC_nil ?_
        exact oddEnd_of zF (fun z hz => (if_neg hz).trans ((congrFun ts z).symm.trans (hm9 z hz))) zN (fun p hp => g11.sub p hp)
  have r3 : m9 (Str.ofString "text") = some (.str (SS (joinC (wrs xs))) t15) := (hm9 _ (by decide)).trans (by with_unfolding_all rfl)
  have r5 : m9 (Str.ofString "due") = some (.ref ld) := (hm9 _ (by decide)).trans (by with_unfolding_all rfl)
  rw [map_at r5, map_at r3] at tF
  obtain ⟨newsG, hdG, rN⟩ : ∃ n : Led, (ld, lstO us) ∈ n ∧ News s₁.heap s₁.heap.objs.size h9 n := ⟨_, .tail _ (.tail _ hdF), tN⟩
  clear tN sN hfo hfd p77 p65
  have w2Ends : Ends 100000 (noBlank (joinC (wrs xs) ++ 44 :: 40 :: (joinC (wrs xs) ++ [41]))) (some (joinC (fls xs) ++ 44 :: joinC (fls xs))) := by rw [hI.clean_twice]; exact hI.twice_ends
  have w2Len : (joinC (wrs xs) ++ 44 :: 40 :: (joinC (wrs xs) ++ [41])).length ≤ 100000 := by
    simp only [List.length_append, List.length_cons, List.length_nil]
    omega
  have usLen : us.length ≤ 3300 := by
    rw [strs_len hst5, List.length_map]
    exact Nat.le_trans (tolds_le xs 2 hI.ok) hI.cost
  have ok2 := hI.twice_strOk
  have st2 : StrsAre (us ++ us) ((tolds xs ++ tolds xs).map SS) := by rw [List.map_append]; exact strs_append hst5 hst5
  refine wpC_of ?_
  k_fold
  k_with_none
  k_with "my fit" => (unfold sizeLine; omega)
  k_with "call ref" => k_dflt (
    (with_reducible show wpAny _ _ (call (Value.ref 65) _) _ _ _)
    rw [s_twice]
    refine' con_use ((pre_try w2Len w2Ends hI.twice_told).con (by simp)) ?j1P10pr ?j2P10pr ?j3P10pr ?j4P10pr ?j5P10pr ?jKP10pr ?jdP10pr ?juP10pr ?_
    (case j1P10pr => k_asm); (case j2P10pr => k_asm); (case j3P10pr => k_asm); (case j4P10pr => k_asm); (case j5P10pr => k_asm); (case jKP10pr => first | exact rfl | assumption); (case jdP10pr => first | ktr_room | k_room); (case juP10pr => first | ktr_units | decide)
    intro r12 news12 h12 tk12 F12 N12 g12 p12
    obtain ⟨q12, ht12, l12, vs12, n12, e12, m12, st12⟩ := p12
    injection ht12 with ht12
    subst ht12
    subst e12
    have mm12 := m12.1
    (try dsimp only)
    (try k_fold))
  k_with "compareOp Eq ref ref" => k_dflt (
    (with_reducible show wpAny _ _ (compareOp CmpOp.Eq (Value.ref _) (Value.ref _)) _ _ _)
    rename News _ _ _ _ => iN
    refine' eq_strsL (ns := (tolds xs ++ tolds xs).map SS) ?q1P10pr st12 ?q2P10pr st2 ok2 ?q3P10pr ?_
    case q1P10pr => exact ⟨_, (iN _ (.tail _ mm12)).1, rfl, _, rfl⟩
    case q2P10pr => exact ⟨_, (iN _ (.head _)).1, rfl, _, rfl⟩
    case q3P10pr => first | ktr_units | decide
    (try dsimp only))
  k_steps
  all_goals (try k_data)
  rename Fr _ _ _ _ => zF
  exact goodT _ (OldK.of_keep zF.keep) rfl rfl

end Mine
end

theorem PySem.Challenge.cw_fc0017_01_holds : PySem.Challenge.rw_fc0017_01.Holds :=
  Mine.law_holds

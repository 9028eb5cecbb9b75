import PyProof.Rows.All
import Wide.All
import OpenK.AllK
import Wide.FinOn
import PySem.Challenge.RW_pg0021_01
set_option Elab.async false
section
open PySem PySem.W PyProof.Rows
set_option maxRecDepth 100000
namespace Mine
open PySem.Calls PySem.Spec PySem.Builtin PySem.Builtin.Str PySem.Builtin.BaseException PySem.Builtin.Exceptions

theorem bexc_bind (self : Value) : bindSpecial (.builtin "BaseException.__str__") self = pure (.builtin "BaseException.__str__", [self]) :=
  PySem.F.excStr_Exception.str.bind self

theorem bexc_check {M : Model} {A : Around} {E : Value → Shared → Prop} {s : Shared} {K : Frag} {e C : Addr} {oe : Obj} {Q : Unit → Shared → Prop}
    (X : K.In s.heap) (ho : s.heap.get? e = some oe) (hc : oe.cls = .ref C) (hm : mroIn K C (.type "BaseException") = some true) (hQ : Q () s) :
    wpAny M A (checkBuiltinCall "BaseException.__str__" ⟨[.ref e], []⟩) Q E s := by
  have hk : builtinKind "BaseException.__str__" = some .slot := by decide +kernel
  have hs : splitId "BaseException.__str__" = some ("BaseException", "__str__") := by decide +kernel
  simp only [checkBuiltinCall, hk, hs]
  have L1 : Looks M s.heap (typeOf (.ref e)) (.ref C) := hc ▸ (Looks.ld ho).andThen .now
  refine wpAny_bind ?_
  unfold isInstance
  refine wpAny_bind (L1.here ((looks_mroIn X hm).here ?_))
  simp only [Bool.not_true, Bool.false_eq_true, if_false]
  have ha := PySem.F.args_bexc_str (.ref e)
  unfold argsOk at ha
  cases hsig : Manifest.signature? "BaseException.__str__" with
  | none => exact wpAny_pure hQ
  | some sig =>
    simp only [hsig] at ha
    show wpAny M A (Bind.checkArgs "BaseException.__str__" sig ⟨[.ref e], []⟩) Q E s
    rw [ha]; exact wpAny_pure hQ

section
variable {prog : Program} {w : World} {A : Around} {E : Value → Shared → Prop} {s : Shared} {K : Frag} {e C t0 : Addr} {oe : Obj} {ws : Array Value}

theorem own_bexcArgs {M : Model} {items : List Value} {Q : Value × List Value → Shared → Prop} (ho : s.heap.get? e = some oe) (hd : oe.data = .fields ws) (h0 : ws[0]? = some (.ref t0)) (ht : s.heap.TupAt t0 items) (hq : Q (.ref t0, items) s) :
    wpAny M A (bexcArgs (.ref e)) Q E s := by
  obtain ⟨ot, k, hto, _, htd⟩ := ht
  unfold bexcArgs
  refine wpAny_bind (wpAny_field ho hd h0 (wpAny_bind (wpAny_seqItems hto htd ?_)))
  have : items.toArray.toList = items := by simp
  show wpAny M A (pure (Value.ref t0, items.toArray.toList)) Q E s
  rw [this]; exact wpAny_pure hq

theorem own_bexcStr {m : Str} {tk : Tok} {Q : Fin → Shared → Prop} (ho : s.heap.get? e = some oe) (hd : oe.data = .fields ws) (h0 : ws[0]? = some (.ref t0)) (ht : s.heap.TupAt t0 [.str m tk]) (hq : Q (.done (.ret (.str m tk))) s) :
    wpAny (model prog w) A (Builtin.«BaseException.__str__» ⟨[.ref e], []⟩) Q E s := by
  unfold Builtin.«BaseException.__str__»
  repeat (first | with_reducible refine own_bexcArgs ho hd h0 ht ?_ | wp_step)
  exact hq

theorem own_callStr {m : Str} {tk : Tok} {Q : Value → Shared → Prop} (X : K.In s.heap) (ho : s.heap.get? e = some oe) (hc : oe.cls = .ref C) (hm : mroIn K C (.type "BaseException") = some true)
    (hd : oe.data = .fields ws) (h0 : ws[0]? = some (.ref t0)) (ht : s.heap.TupAt t0 [.str m tk]) (hq : Q (.str m tk) s) :
    wpAny (model prog w) A (call (.builtin "BaseException.__str__") [.ref e]) Q E s := by
  refine wpAny_call (codeAny_call_builtin PySem.F.excStr_Exception.str.plain PySem.F.entry_bexc_str (bexc_check X ho hc hm (own_bexcStr ho hd h0 ht ?_)))
  exact hq

theorem own_strOf {m : Str} {tk : Tok} {Q : Value → Shared → Prop} (hu : A.units < cLine) (X : K.In s.heap) (ho : s.heap.get? e = some oe) (hc : oe.cls = .ref C) (hf : findIn K (.ref C) "__str__" = some (some (.builtin "BaseException.__str__"))) (hm : mroIn K C (.type "BaseException") = some true)
    (hd : oe.data = .fields ws) (h0 : ws[0]? = some (.ref t0)) (ht : s.heap.TupAt t0 [.str m tk]) (hq : Q (.str m tk) s) :
    wpAny (model prog w) A (PySem.Builtin.Str.strOf (.ref e)) Q E s := by
  unfold PySem.Builtin.Str.strOf
  rw [show isExactStr (.ref e) = false from rfl]
  refine wpAny_bind (m := cRoomFor _ _) (wpAny_cRoomFor hu ?_)
  have L1 : Looks (model prog w) s.heap (typeOf (.ref e)) (.ref C) := hc ▸ (Looks.ld ho).andThen .now
  refine wpAny_bind (m := callSpecial? (.ref e) (Str.ofString "__str__")) ?_
  refine wpAny_bind (wpAny_bind (L1.here ((looks_findIn X hf).here (wpAny_holding (wpAny_bind ?_)))))
  show wpAny _ A (bindSpecial (.builtin "BaseException.__str__") (.ref e)) _ _ _
  rw [bexc_bind]
  refine wpAny_pure (wpAny_bind (own_callStr X ho hc hm hd h0 ht (wpAny_pure ?_)))
  exact wpAny_pure hq
end

theorem str_own_got {prog : Program} {w : World} {A : Around} {E : Value → Shared → Prop} {s : Shared} {K : Frag} {h₀ : Heap} {L e t C : Addr} {news : List (Addr × Obj)} {m : Str} {u : Tok} {Q : Value → Shared → Prop}
    (N : News h₀ L s.heap news) (G : Got news e t (.ref C) [.str m u]) (X : K.In s.heap) (hf : findIn K (.ref C) "__str__" = some (some (.builtin "BaseException.__str__"))) (hm : mroIn K C (.type "BaseException") = some true)
    (hu : A.in1.in1.units < cLine) (hq : Q (.str m u) s) :
    wpAny (model prog w) A (call (.type "str") [.ref e]) Q E s := by
  obtain ⟨oe, ot, ws, nt, h1, h2, hc, hd, h0, htc, htd⟩ := G
  have ho := N.get h1
  have ht : s.heap.TupAt t [.str m u] := ⟨ot, nt, N.get h2, htc, htd⟩
  refine callType_codes (T := "str") (Bi := Builtin.«object.__init__») (Q₁ := fun r s₁ => ∃ y u, r = .str y u ∧ Q r s₁) PySem.F.called_str (PySem.F.typeCall_str_1 _) PySem.F.entry_object_init ?_ ?_
  · refine codeAny_of_tree ?_
    show wpAny _ A.in1.in1 (do checkBuiltinCall "str.__new__" ⟨[.type "str", .ref e], []⟩; again (.builtin "str.__new__" ⟨[.type "str", .ref e], []⟩)) _ _ s
    refine wpAny_bind (wpAny_of_eq (PySem.F.newCall_str_1 _) (wpAny_pure ⟨plainId_quiet (by decide +kernel) _, codeAny_builtin PySem.F.entry_str_new ?_⟩))
    rw [Around.under_plainId (by decide +kernel) _]
    rw [str_new_tree]
    refine wpAny_bind (wpAny_pure ?_)
    refine wpAny_bind (wpAny_of_eq isSubtype_str_str ?_)
    exact wpAny_bind (own_strOf hu X ho hc hf hm hd h0 ht (wpAny_pure ⟨_, _, rfl, hq⟩))
  · rintro obj s₁ ⟨y, u, rfl, hq⟩
    exact ⟨typeIs_str _ _ _, PySem.F.args_object_init_2 _ _, object_init_meets PySem.F.called_str.init.lookup PySem.F.called_str.made (by decide) prog w A.in1 _ s₁ ⟨typeIs_str _ _ _, rfl, hq⟩⟩
end Mine
end
section
open PySem PySem.W PyProof.Rows
set_option maxRecDepth 100000
set_option linter.unusedVariables false
namespace Mine
open PySem.Calls PySem.Spec
open Sem (wp)

/-- the claim's own caller lies on the stack below -/
def Cal (Γ : PySem.Ctx) : Prop := Γ.below.any (fun x => x.1.isCaller) = true

theorem Cal.enter {Γ : PySem.Ctx} (h : Cal Γ) (c : Code) (hd : Option Value) (p : Pos) : Cal (Γ.enter c hd p) := by
  show ((Γ.code, p) :: Γ.below).any (fun x => x.1.isCaller) = true
  rw [List.any_cons]
  exact Bool.or_eq_true_iff.mpr (.inr h)
theorem Cal.goto {Γ : PySem.Ctx} (h : Cal Γ) (c : Code) : Cal (Γ.goto c) := h

def wpCl {α : Type} (M : Model) (A : Around) (t : Sem α) (Q : α → Shared → Prop) (E : Value → Shared → Prop) (s : Shared) : Prop :=
  ∀ Γ p, Γ.In A → Cal Γ → wp M Γ t (fun a _ s' => Q a s') (fun e _ s' => E e s') p s
def codeCl (M : Model) (A : Around) (c : Code) (R : Result → Shared → Prop) (s : Shared) : Prop :=
  ∀ Γ p, Γ.code = c → Γ.Below A → Cal Γ → wpCode M Γ R p s

section
variable {α β : Type} {M : Model} {A : Around} {E : Value → Shared → Prop} {s : Shared}
theorem wpCl_of {t : Sem α} {Q : α → Shared → Prop} (h : wpAny M A t Q E s) : wpCl M A t Q E s := fun Γ p hΓ _ => h Γ p hΓ
theorem codeCl_of {c : Code} {R : Result → Shared → Prop} (h : codeAny M A c R s) : codeCl M A c R s := fun Γ p hc hΓ _ => h Γ p hc hΓ
theorem wpCl_mono {t : Sem α} {Q Q' : α → Shared → Prop} {E' : Value → Shared → Prop} (h : wpCl M A t Q E s) (hQ : ∀ a s, Q a s → Q' a s) (hE : ∀ e s, E e s → E' e s) : wpCl M A t Q' E' s :=
  fun Γ p hΓ c => Sem.wp_mono M Γ t (fun a _ s => hQ a s) (fun e _ s => hE e s) p s (h Γ p hΓ c)
theorem wpCl_bind {m : Sem α} {f : α → Sem β} {Q : β → Shared → Prop} (h : wpCl M A m (fun a s' => wpCl M A (f a) Q E s') E s) : wpCl M A (m >>= f) Q E s := fun Γ p hΓ c => by
  rw [Sem.wp_bind']
  exact Sem.wp_mono M Γ m (fun a p' s' h' => h' Γ p' hΓ c) (fun _ _ _ h' => h') p s (h Γ p hΓ c)
/-- what stands ahead is off the path -/
theorem wpCl_then {m : Sem α} {f : α → Sem β} {Q : β → Shared → Prop} (h : wpAny M A m (fun a s' => wpCl M A (f a) Q E s') E s) : wpCl M A (m >>= f) Q E s := wpCl_bind (wpCl_of h)
/-- what stands behind is off the path -/
theorem wpCl_first {m : Sem α} {f : α → Sem β} {Q : β → Shared → Prop} (h : wpCl M A m (fun a s' => wpAny M A (f a) Q E s') E s) : wpCl M A (m >>= f) Q E s :=
  wpCl_bind (wpCl_mono h (fun _ _ x => wpCl_of x) fun _ _ x => x)
theorem wpCl_pure {a : α} {Q : α → Shared → Prop} (h : Q a s) : wpCl M A (pure a) Q E s := fun _ _ _ _ => h
theorem wpCl_holding {vs : List Value} {m : Sem α} {Q : α → Shared → Prop} (h : wpCl M A m Q E s) : wpCl M A (holding vs m) Q E s :=
  fun Γ p hΓ c => by rw [Sem.wp_holding]; exact h Γ p hΓ c
theorem wpCl_attempt {m : Sem α} {Q : Except Value α → Shared → Prop} (h : wpCl M A m (fun a => Q (.ok a)) (fun e => Q (.error e)) s) : wpCl M A m.attempt Q E s :=
  fun Γ p hΓ c => by rw [Sem.wp_attempt]; exact h Γ p hΓ c
theorem wpCl_onRaise {m : Sem α} {k : Value → Sem Unit} {Q : α → Shared → Prop}
    (h : wpCl M A m Q (fun e s' => wpAny M A (k e) (fun _ s'' => E e s'') E s') s) : wpCl M A (m.onRaise k) Q E s := fun Γ p hΓ c => by
  rw [Sem.wp_onRaise]
  exact Sem.wp_mono M Γ m (fun _ _ _ h' => h') (fun e p' s' h' => h' Γ p' hΓ) p s (h Γ p hΓ c)
theorem wpCl_of_in1 {t : Sem α} {Q : α → Shared → Prop} (h : wpCl M A.in1 t Q E s) : wpCl M A t Q E s :=
  fun Γ p hΓ c => h Γ p ⟨hΓ.1, hΓ.2.1, hΓ.2.2.1, hΓ.2.2.2.1, Nat.le_succ_of_le hΓ.2.2.2.2⟩ c

theorem codeCl_mono {c : Code} {R R' : Result → Shared → Prop} (h : codeCl M A c R s) (hR : ∀ r s, R r s → R' r s) : codeCl M A c R' s :=
  fun Γ p hc hΓ k => wpCode_mono hR (h Γ p hc hΓ k)
theorem wpCl_run {c : Code} {h : Option Value} {Q : Flow → Shared → Prop}
    (hc : codeCl M (A.mark h) c (fun r s' => match r with | .ok f => Q f s' | .error e => E e s') s) (hnb : h ≠ some byPass := by intro x; cases x) :
    wpCl M A (run c h) Q E s :=
  fun Γ p hΓ k => by rw [Sem.wp_run]; exact hc _ p rfl (hΓ.enter c h p hnb) (k.enter c h p)
theorem wpCl_runValue {c : Code} {Q : Value → Shared → Prop}
    (hc : codeCl M A c (fun r s' => match r with | .ok (.ret v) => Q v s' | .ok _ => False | .error e => E e s') s) :
    wpCl M A (runValue c) Q E s := fun Γ p hΓ k => by rw [Sem.wp_runValue]; exact hc _ p rfl (hΓ.enter c none p (by intro x; cases x)) (k.enter c none p)
theorem wpCl_call {f : Value} {pos : List Value} {kw : List (Str × Value)} {Q : Value → Shared → Prop}
    (hc : codeCl M A (.call f ⟨pos, kw⟩) (fun r s' => match r with | .ok (.ret v) => Q v s' | .ok _ => False | .error e => E e s') s) :
    wpCl M A (call f pos kw) Q E s := wpCl_runValue hc
theorem codeCl_of_tree {c : Code} {R : Result → Shared → Prop}
    (h : wpCl M (A.under c) (M.den c) (fun fin s' => match fin with | .done f => R (.ok f) s' | .again c' => c'.quiet = true ∧ codeCl M A c' R s')
      (fun e s' => R (.error e) s') s) : codeCl M A c R s := fun Γ p hc hΓ k => by
  rw [wpCode_iff_wp, hc]
  refine Sem.wp_mono M Γ _ (fun fin p' s' h' => ?_) (fun _ _ _ h' => h') p s (h Γ p (hc ▸ hΓ.in) k)
  cases fin with
  | done f => exact h'
  | again c' => exact ⟨h'.1, h'.2 (Γ.goto c') p' rfl (hΓ.goto c') (k.goto c')⟩
theorem codeCl_loop {c : Code} {R : Result → Shared → Prop} (hq : c.quiet = true) (I : Nat → Shared → Prop)
    (turn : ∀ n s, I n s → wpCl M (A.under c) (M.den c)
      (fun fin s' => match fin with
        | .done f => R (.ok f) s'
        | .again c' => (c' = c ∧ ∃ m, m < n ∧ I m s') ∨ (c'.quiet = true ∧ codeCl M A c' R s')) (fun e s' => R (.error e) s') s)
    (n : Nat) (h : I n s) : codeCl M A c R s := by
  induction n using Nat.strongRecOn generalizing s with
  | ind n ih =>
    refine codeCl_of_tree (wpCl_mono (turn n s h) (fun fin s' hf => ?_) fun _ _ h' => h')
    cases fin with
    | done f => exact hf
    | again c' =>
      rcases hf with ⟨rfl, m, hm, hI⟩ | hf
      · exact ⟨hq, ih m hm hI⟩
      · exact hf
end

section
variable {prog : Program} {w : World} {A : Around} {R : Result → Shared → Prop} {s : Shared}
theorem codeCl_func {body : List Stmt} {env : Env}
    (h : wpCl (model prog w) (A.deeper env) (execs body env) (fun f s' => R (.ok (.ret (match f with | .ret v => v | _ => .none))) s')
      (fun e s' => wpAny (model prog w) (A.deeper env) (leaving env e) (fun _ s'' => R (.error e) s'') (fun e' s'' => R (.error e') s'') s') s) :
    codeCl (model prog w) A (.func body env) R s := by
  refine codeCl_of_tree ?_
  show wpCl _ (A.deeper env) (do point; match ← (execs body env).onRaise (leaving env) with | .ret v => ret v | _ => ret .none) _ _ s
  refine wpCl_then (wpAny_point (wpCl_bind (wpCl_onRaise (wpCl_mono h (fun f s' h' => ?_) fun _ _ h' => h'))))
  cases f <;> exact wpCl_pure h'

theorem codeCl_call_def {a : Addr} {o : Obj} {fd : FuncData} {body : List Stmt} {args : Args} {binds : List (Str × Value)}
    (hroom : A.depth < recursionLimit) (ho : s.heap.get? a = some o) (hdata : o.data = .func fd) (hlim : s.heap.NoLimit) (hcd : s.heap.CodeRec fd.code fd.qualname)
    (hbody : fd.body = .stmts body) (hbind : BindsTo s fd args binds)
    (hcell : ∀ x ∈ fd.scope.names, x.2 ≠ .cell) (hloc : ∀ x ∈ binds, fd.scope.names.lookup x.1 = some .local)
    (h : ∀ h₀, h₀.Ns s.heap.objs.size (fun x => binds.reverse.lookup x) → (∀ b o, s.heap.get? b = some o → h₀.get? b = some o) →
      wpCl (model prog w) (A.deeper (callEnv fd s.heap.objs.size a)) (execs body (callEnv fd s.heap.objs.size a)) (fun f s' => R (.ok (.ret (match f with | .ret v => v | _ => .none))) s')
        (fun e s' => wpAny (model prog w) (A.deeper (callEnv fd s.heap.objs.size a)) (leaving (callEnv fd s.heap.objs.size a) e) (fun _ s'' => R (.error e) s'') (fun e' s'' => R (.error e') s'') s')
        { s with heap := h₀, toks := s.toks + binds.length })
    (hco : fd.scope.isCoroutine = false) (hgen : fd.scope.isGenerator = false) (hk : fd.scope.kind = .function) :
    codeCl (model prog w) A (.call (.ref a) args) R s := by
  refine codeCl_of_tree ?_
  show wpCl _ A.in1 (callAny (.ref a) args) _ _ s
  simp only [callAny]
  refine wpCl_then (wpAny_load ho ?_)
  obtain ⟨c, oc, vs, tq, hc, hoc, hdc, hq⟩ := hcd
  simp only [hdata, callFunction, hco, hgen, hbody, hc]
  refine wpCl_then (m := field (.ref c) 1) (wpAny_field hoc hdc hq (wpCl_then (wpAny_pure ?_)))
  refine wpCl_then (hbind _ _ _ _ ?_)
  rw [← hc]
  refine wpCl_then (wpAny_newFunctionEnv hcell hloc (fun h₀ hns₀ hsb₀ => ?_) hk)
  refine wpCl_then (wpAny_enterFrame (hlim.fresh _ hsb₀) hroom (wpCl_pure (And.intro rfl (codeCl_func (h h₀ hns₀ fun b o e => ?_)))))
  exact hsb₀.extBut b o (Nat.ne_of_lt (Heap.lt_size e)) (Heap.get?_push_of_some _ e)
end
end Mine
end
section
open PySem PySem.W PyProof.Rows
set_option maxRecDepth 100000
set_option linter.unusedVariables false
namespace Mine
open PySem.Calls PySem.Spec
open Sem (wp)

section
variable {M : Model} {A : Around} {E : Value → Shared → Prop} {s : Shared} {env : Env}

theorem wpCl_execs_cons {st : Stmt} {rest : List Stmt} {Q : Flow → Shared → Prop}
    (h : wpCl M A (exec st env) (fun f s' => match f with | .next => wpCl M A (execs rest env) Q E s' | f => Q f s') E s) :
    wpCl M A (execs (st :: rest) env) Q E s := fun Γ p hΓ k => by
  rw [execs_cons, Sem.wp_bind']
  refine Sem.wp_mono M Γ _ (fun f p' s' h' => ?_) (fun _ _ _ h' => h') _ _ (h Γ p hΓ k)
  cases f <;> first | exact h' Γ p' hΓ k | exact h'
theorem wpCl_execs_then {st : Stmt} {rest : List Stmt} {Q : Flow → Shared → Prop}
    (h : wpAny M A (exec st env) (fun f s' => match f with | .next => wpCl M A (execs rest env) Q E s' | f => Q f s') E s) :
    wpCl M A (execs (st :: rest) env) Q E s := wpCl_execs_cons (wpCl_of h)
theorem wpCl_If {test body orelse pos} {Q : Flow → Shared → Prop}
    (h : wpCl M A (isTrue test env (eval test env))
      (fun b s₂ => if b then wpAny M A (execs body env) Q E s₂ else wpAny M A (execs orelse env) Q E s₂) E s) :
    wpCl M A (exec (.If test body orelse pos) env) Q E s := fun Γ p hΓ k => by
  simp only [exec_If, Sem.wp_bind', Sem.wp_cmd_standAt]
  refine Sem.wp_mono M Γ _ (fun b p₂ s₂ h₂ => ?_) (fun _ _ _ h' => h') _ _ (h Γ _ hΓ k)
  cases b <;> exact h₂ Γ p₂ hΓ
theorem wpCl_isTrue_Compare1 {l op r pos whole} {Q : Bool → Shared → Prop}
    (h : wpCl M A (eval l env) (fun a s₁ => wpAny M A (eval r env) (fun b s₂ => wpAny M A (compareOp op a b)
      (fun c s₃ => wpAny M A (truthy c) Q E s₃) E s₂) E s₁) E s)
    (hm : behindInMarks op r = false := by with_unfolding_all rfl) : wpCl M A (isTrue (.Compare l [op] [r] pos) env whole) Q E s := fun Γ p hΓ k => by
  simp only [isTrue_Compare1, markedBehindIn_of_false hm, Sem.wp_bind', Sem.wp_holding, Sem.wp_cmd_standAt, Sem.wp_operate]
  exact Sem.wp_mono M Γ _ (fun a p₁ s₁ h₁ => Sem.wp_mono M Γ _ (fun b _ s₂ h₂ => Sem.wp_mono M Γ _ (fun c p₃ s₃ h₃ => h₃ Γ p₃ hΓ)
    (fun _ _ _ h' => h') _ _ (h₂ Γ _ hΓ)) (fun _ _ _ h' => h') _ _ (h₁ Γ p₁ hΓ)) (fun _ _ _ h' => h') _ _ (h Γ p hΓ k)
theorem wpCl_Return_some {e pos} {Q : Flow → Shared → Prop} (h : wpCl M A (eval e env) (fun v => Q (.ret v)) E s) :
    wpCl M A (exec (.Return (some e) pos) env) Q E s := fun Γ p hΓ k => by
  simp only [exec_Return_some, Sem.wp_bind', Sem.wp_cmd_standAt, Sem.wp_pure']; exact h Γ _ hΓ k
theorem wpCl_Assign_Name {x pos' value pos} {Q : Flow → Shared → Prop}
    (h : wpCl M A (eval value env) (fun v s₁ => wpAny M A (storeName env x v) (fun _ => Q .next) E s₁) E s)
    (hs : swapsWith value (some (.Name x pos')) pos.line env = pure false := by rfl) :
    wpCl M A (exec (.Assign [.Name x pos'] value pos) env) Q E s := fun Γ p hΓ k => by
  simp only [exec_Assign_Name env x pos' value pos hs, Sem.wp_bind', Sem.wp_cmd_standAt, Sem.wp_bindName, Sem.wp_pure']
  exact Sem.wp_mono M Γ _ (fun v _ s₁ h₁ => h₁ Γ _ hΓ) (fun _ _ _ h' => h') _ _ (h Γ _ hΓ k)
theorem wpCl_keep {vs : List Value} {m : Sem Value} {Q : Value → Shared → Prop} (h : wpCl M A m Q E s) : wpCl M A (m.keep vs) Q E s :=
  fun Γ p hΓ k => by rw [Sem.wp_keep]; exact h Γ p hΓ k
theorem wpCl_operate {vs : List Value} {m : Sem Value} {Q : Value → Shared → Prop} (h : wpCl M A m Q E s) : wpCl M A (operate vs m) Q E s :=
  fun Γ p hΓ k => by rw [Sem.wp_operate]; exact h Γ p hΓ k
theorem wpCl_Call {func : Expr} {args : List Expr} {pos : Pos} {Q : Value → Shared → Prop}
    (h : wpAny M A (eval func env) (fun f s₁ => wpCl M A (callWith pos f [] (backTo pos (starEach args env)) []) Q E s₁) E s)
    (he : eval (.Call func args [] pos) env = (do callWith pos (← eval func env) [] (backTo pos (starEach args env)) (backToKw pos (keywordEach [] env))) := by rfl) :
    wpCl M A (eval (.Call func args [] pos) env) Q E s := by
  rw [he]; exact wpCl_then h

theorem wpCl_tail {t : Sem Value} {Q : Value → Shared → Prop} (ht : wpCl M A t Q E s) : wpCl M A (t >>= fun r => holding [r] point >>= fun _ => pure r) Q E s :=
  wpCl_first (wpCl_mono ht (fun r s₂ hr => wpAny_bind (wpAny_holding (wpAny_point (wpAny_pure hr)))) fun _ _ x => x)
theorem callWithCl_of {P : Heap → Prop} {f : Value} {pos : Pos} {args : List (Bool × Sem Value)} {Q : Value → Shared → Prop} (hplain : (args.any (·.1) || ([] : List (Option Str × Sem Value)).any (·.1.isNone)) = false)
    (hk : ∀ h, P h → ∃ k, (k = Keeper.frame ∨ k = Keeper.machine ∨ k = Keeper.boundFrame) ∧ Looks M h (keeperOf f) k)
    (h : wpAny M A (evalArgs f true args []) (fun a s₁ => P s₁.heap ∧ wpCl M A (call f ([] ++ a.pos) a.kw) Q E s₁) E s) : wpCl M A (callWith pos f [] args []) Q E s := by
  unfold callWith
  refine wpCl_then (wpAny_holding (wpAny_mono h (fun a s₁ h₁ => wpCl_then (wpAny_standAt ?_)) fun _ _ x => x))
  obtain ⟨k, hk', L⟩ := hk _ h₁.1
  simp only [hplain]
  refine wpCl_then (L.here ?_)
  have marked (mk : Value) : wpCl M A (callMarked mk f ([] ++ a.pos) a.kw) Q E s₁ := by unfold callMarked; exact wpCl_keep h₁.2
  rcases hk' with rfl | rfl | rfl <;> dsimp only <;> first | exact wpCl_tail h₁.2 | (split <;> first | exact wpCl_tail h₁.2 | exact wpCl_tail (marked _))
theorem callWithCl_K {K : Frag} {f : Value} {pos : Pos} {e : Expr} {rest : List Expr} {Q : Value → Shared → Prop} (hk : keepIn K f = true)
    (h : wpAny M A (spliced (backTo pos (starEach (e :: rest) env))) (fun vs s₁ => K.In s₁.heap ∧ wpCl M A (call f vs) Q E s₁) E s)
    (he : starEach (e :: rest) env = (false, eval e env) :: starEach rest env := by rfl) (hplain : (backTo pos (starEach rest env)).any (·.1) = false := by rfl) :
    wpCl M A (callWith pos f [] (backTo pos (starEach (e :: rest) env)) []) Q E s := by
  rw [he] at h ⊢
  exact callWithCl_of (by show ((false || (backTo pos (starEach rest env)).any (·.1)) || false) = false; rw [hplain]; rfl) (keeps_K hk) (evalArgs_plain h)
theorem callWithCl_type {T : String} {pos : Pos} {e : Expr} {rest : List Expr} {Q : Value → Shared → Prop}
    (h : wpAny M A (spliced (backTo pos (starEach (e :: rest) env))) (fun vs s₁ => wpCl M A (call (.type T) vs) Q E s₁) E s)
    (he : starEach (e :: rest) env = (false, eval e env) :: starEach rest env := by rfl) (hplain : (backTo pos (starEach rest env)).any (·.1) = false := by rfl) :
    wpCl M A (callWith pos (.type T) [] (backTo pos (starEach (e :: rest) env)) []) Q E s := by
  rw [he] at h ⊢
  have key : ∀ {args : List (Bool × Sem Value)}, args.any (·.1) = false → wpAny M A (evalArgs (.type T) true args []) (fun a s₁ => wpCl M A (call (.type T) ([] ++ a.pos) a.kw) Q E s₁) E s → wpCl M A (callWith pos (.type T) [] args []) Q E s := by
    intro args hp h
    unfold callWith
    refine wpCl_then (wpAny_holding (wpAny_mono h (fun a s₁ h₁ => wpCl_then (wpAny_standAt ?_)) fun _ _ x => x))
    simp only [hp, List.any_nil, Bool.or_false]
    exact wpCl_then (wpAny_pure (wpCl_tail h₁))
  exact key (by show (false || (backTo pos (starEach rest env)).any (·.1)) = false; rw [hplain]; rfl) (evalArgs_plain h)
end

section
variable {prog : Program} {w : World} {A : Around} {E : Value → Shared → Prop} {s : Shared} {env : Env}
theorem wpCl_Try {body orelse : List Stmt} {h₀ : ExceptHandler} {hs : List ExceptHandler} {pos : Pos} {Q : Flow → Shared → Prop}
    (h : wpCl (model prog w) A (execs body env) (fun f s₁ => match f with | .next => wpAny (model prog w) A (execs orelse env) Q E s₁ | f => Q f s₁)
      (fun e s₁ => wpAny (model prog w) A (noteFrame e env) (fun _ s₂ => wpAny (model prog w) A (setFlight e none) (fun _ s₃ => wpAny (model prog w) A (handleBy e env (h₀ :: hs)) Q E s₃) E s₂) E s₁) s) :
    wpCl (model prog w) A (exec (.Try body (h₀ :: hs) orelse [] pos) env) Q E s := by
  show wpCl _ A (do standAt pos; tryStmt false (execs body env) (h₀ :: hs) (execs orelse env) [] env) Q E s
  refine wpCl_then (wpAny_standAt ?_)
  unfold tryStmt
  simp only [List.isEmpty_nil, if_true]
  refine wpCl_first (wpCl_attempt (wpCl_mono h (fun f s₁ h₁ => ?_) fun e s₁ h₁ => ?_))
  · cases f with
    | next => exact h₁
    | _ => exact wpAny_pure h₁
  · dsimp only
    refine wpAny_bind (wpAny_mono h₁ (fun _ s₂ h₂ => ?_) fun _ _ x => x)
    simp only [List.isEmpty_cons, Bool.false_eq_true, if_false, Bool.false_and]
    exact wpAny_bind h₂
end
end Mine
end
section
open PySem PySem.W PyProof.Rows
set_option maxRecDepth 100000
set_option linter.unusedVariables false
namespace Mine
open PySem.Calls PySem.Spec
open Sem (wp)

section
variable {prog : Program} {w : World} {A A₀ : Around} {s : Shared} {K : Frag} {L : Addr} {h₀ base : Heap} {m mg mb : Str → Option Value} {news : List (Addr × Obj)} {p : Program} {loose : List Str} {mean : ExcName → Option Value}
  {R : Result → Shared → Prop} {name qual : Str} {params : Arguments} {body : List Stmt} {scope : Scope} {dV kV doc pm cdv ct oc : Value} {an od : Option Addr} {osl : Array (Option Value)} {f : Addr} {args : Args} {binds : List (Str × Value)}

/-- entering a def, on the path (as the library's code_def, for the caller-aware logic) -/
theorem code_defCl {env : Env} {outer : List Env}
    (B : Below A₀ base outer h₀) (F : Fr h₀ L s.heap m) (X₀ : K.In h₀) (N : News h₀ L s.heap news) (T : Top p loose mean mg mb h₀) (hA : A.frames = some (env :: outer)) (hf : env.frame = some L) (hke : env.scope.kind = .function)
    (ho : K.lookup f = some ⟨oc, od, .func (fnOf name qual params body scope dV kV doc pm an cdv ct), osl⟩) (hcd : codeIn K cdv qual = true) (hroom : A.depth < recursionLimit)
    (hbind : BindsTo s (fnOf name qual params body scope dV kV doc pm an cdv ct) args binds) (hloc : ∀ y ∈ binds, scope.names.lookup y.1 = some .local)
    (h : ∀ g L' h₁, Fr h₀ L g m → Fr g L' h₁ (fun y => binds.reverse.lookup y) → News g L' h₁ news → Below A base (env :: outer) g → K.In g → Top p loose mean mg mb g →
      wpCl (model prog w) (A.deeper (envOf qual scope L' f cdv)) (execs body (envOf qual scope L' f cdv))
        (fun fl s' => LeaveK h₀ L m g R (match fl with | .ret v => v | _ => .none) s')
        (fun e s' => wpAny (model prog w) (A.deeper (envOf qual scope L' f cdv)) (leaving (envOf qual scope L' f cdv) e) (fun _ s'' => R (.error e) s'') (fun e' s'' => R (.error e') s'') s')
        { s with heap := h₁, toks := s.toks + binds.length })
    (hco : scope.isCoroutine = false) (hgen : scope.isGenerator = false) (hk : scope.kind = .function)
    (hcell : ∀ x ∈ scope.names, x.2 ≠ .cell) : codeCl (model prog w) A (.call (.ref f) args) R s := by
  obtain ⟨FG, BG, st, lv⟩ := groundX (R := R) B F N hA hf hke
  refine codeCl_call_def (fd := fnOf name qual params body scope dV kV doc pm an cdv ct) (body := body) (binds := binds) hroom ((X₀.keeps F.keep) _ _ ho) rfl (T.nolimit.keeps F.keep) (codeRec_of (X₀.keeps F.keep) hcd) rfl hbind hcell hloc (fun h₁ hns hk₁ => ?_) hco hgen hk
  exact wpCl_mono (h _ s.heap.objs.size h₁ FG ⟨hns, fun b o e => hk₁ b o (of_hideAll _ e), Nat.le_of_eq (hideAll_size _ _)⟩
    (fun p hp => ⟨hk₁ _ _ (N p hp).1, Nat.ne_of_lt (Heap.lt_size (N p hp).1), hideAll_none _ (List.mem_map_of_mem hp)⟩) BG (X₀.keeps st) (T.keeps st)) (fun fl s' hl => lv _ _ hl) fun _ _ y => y

/-- entering a def that catches, from the law's own frame -/
theorem code_defS0Cl {cn : Str} {cs : Scope} {a : Addr} {ccd : Value} (B : Below A₀ base [] h₀) (F : Fr h₀ L s.heap m) (X₀ : K.In h₀) (N : News h₀ L s.heap news) (T : Top p loose mean mg mb h₀) (hA : A.frames = some [envOf cn cs L a ccd])
    (ho : K.lookup f = some ⟨oc, od, .func (fnOf name qual params body scope dV kV doc pm an cdv ct), osl⟩) (hcd : codeIn K cdv qual = true) (hroom : A.depth < recursionLimit)
    (hbind : BindsTo s (fnOf name qual params body scope dV kV doc pm an cdv ct) args binds) (hloc : ∀ y ∈ binds, scope.names.lookup y.1 = some .local)
    (h : ∀ g L' h₁, Fr h₀ L g m → Fr g L' h₁ (fun y => binds.reverse.lookup y) → News g L' h₁ news → Below A base [envOf cn cs L a ccd] g → K.In g → Top p loose mean mg mb g → KtsDicts ([envOf cn cs L a ccd].filterMap (·.frame)) g →
      wpCl (model prog w) (A.deeper (envOf qual scope L' f cdv)) (execs body (envOf qual scope L' f cdv))
        (fun fl s' => LeaveS0 ([envOf cn cs L a ccd].filterMap (·.frame)) h₀ L m g R (match fl with | .ret v => v | _ => .none) s')
        (fun e s' => wpAny (model prog w) (A.deeper (envOf qual scope L' f cdv)) (leaving (envOf qual scope L' f cdv) e) (fun _ s'' => R (.error e) s'') (fun e' s'' => R (.error e') s'') s')
        { s with heap := h₁, toks := s.toks + binds.length })
    (hck : cs.kind = .function) (hco : scope.isCoroutine = false) (hgen : scope.isGenerator = false) (hk : scope.kind = .function)
    (hcell : ∀ x ∈ scope.names, x.2 ≠ .cell) : codeCl (model prog w) A (.call (.ref f) args) R s := by
  have X := X₀.keeps F.keep
  refine codeCl_call_def (fd := fnOf name qual params body scope dV kV doc pm an cdv ct) (body := body) (binds := binds) hroom (X _ _ ho) rfl (T.nolimit.keeps F.keep) (codeRec_of X hcd) rfl hbind hcell hloc (fun h₁ hns hk₁ => ?_) hco hgen hk
  obtain ⟨oL, es, ep, hLg, hLd, hN, hNs, st, B₂⟩ := kts_enter B F N hA hck
  refine wpCl_mono (h _ s.heap.objs.size h₁ ⟨hN _ hLg, st, F.above⟩ ⟨hns, fun b o e => hk₁ b o (of_hideAll _ e), Nat.le_of_eq (hideAll_size _ _)⟩
    (fun p hp => ⟨hk₁ _ _ (N p hp).1, Nat.ne_of_lt (Heap.lt_size (N p hp).1), hideAll_none _ (List.mem_map_of_mem hp)⟩) B₂ (X₀.keeps st) (T.keeps st) ?dicts) (fun fl s' hl => ?_) fun _ _ y => y
  case dicts =>
    intro b hb
    rcases kts_mem hb with rfl | z
    · exact ⟨oL, es, ep, hLg, hLd⟩
    · exact absurd z (by simp)
  obtain ⟨g', L', m', news', T', F', N', k⟩ := hl
  have nL₀ : h₀.get? L = none := kts_self F
  obtain ⟨sl, hs⟩ := T'.up hLg
  have away : ∀ b o, h₀.get? b = some o → b ∉ ([envOf cn cs L a ccd].filterMap (·.frame)) := fun b o e q => by
    rcases kts_mem q with z | z
    · rw [z, nL₀] at e; cases e
    · exact absurd z (by simp)
  refine k ⟨hNs sl _ (F'.keep _ _ hs), fun b o e => F'.keep b o (T'.other b o (st b o e) (away b o e)), F.above⟩ fun p hp => ⟨(N' p hp).1, fun q => ?_, ?_⟩
  · have := (N' p hp).2.2; rw [q, hs] at this; cases this
  · cases q : h₀.get? p.1 with
    | none => rfl
    | some o =>
      obtain ⟨sl', hs'⟩ := T'.up (st _ _ q)
      have := (N' p hp).2.2
      rw [hs'] at this
      cases this
end

section
variable {prog : Program} {w : World} {A : Around} {s : Shared} {env : Env} {R : Result → Shared → Prop}
theorem wpCl_noted {α : Type} {E : Value → Shared → Prop} {m : Sem α} {Q : α → Shared → Prop} (h : wpCl (model prog w) A m Q (fun _ _ => False) s) : wpCl (model prog w) A (m.onRaise fun x => do noteFrame x env; theTreesLotGoes x) Q E s :=
  wpCl_onRaise (wpCl_mono h (fun _ _ q => q) fun _ _ hx => hx.elim)

theorem codeCl_forLoop {target it : _} {body : List Stmt} (I : Nat → Shared → Prop)
    (turn : ∀ n s, I n s → wpAny (model prog w) A (pyNext it) (fun r s₁ => match r with
      | none => R (.ok .next) s₁
      | some v => wpAny (model prog w) A (assign target env v) (fun _ s₂ => wpCl (model prog w) A (execs body env) (fun f s₃ => match f with
          | .next | .cont => ∃ m, m < n ∧ I m s₃
          | .brk => R (.ok .next) s₃
          | .ret v => R (.ok (.ret v)) s₃) (fun _ _ => False) s₂) (fun _ _ => False) s₁) (fun _ _ => False) s)
    (n : Nat) (h : I n s) (ht : ∀ v, letOwnedTupleGo target it v = pure () := by intro _; rfl) : codeCl (model prog w) A (.forLoop target it body [] env) R s := by
  refine codeCl_loop rfl I (fun n s hI => ?_) n h
  show wpCl _ _ ((forTurn target it body [] env).onRaise (fun x => do noteFrame x env; theTreesLotGoes x)) _ _ s
  refine wpCl_noted ?_
  simp only [forTurn]
  refine wpCl_then (wpAny_standAt (wpCl_then (wpAny_onRaise (wpAny_mono (turn n s hI) (fun r s₁ h₁ => ?_) fun _ _ h' => h'.elim))))
  cases r with
  | none => exact wpCl_pure (.inr ⟨rfl, codeCl_of (codeAny_block (wpAny_execs_nil h₁))⟩)
  | some v =>
    refine wpCl_then (wpAny_of_eq (ht v) ?_)
    refine wpCl_then (wpAny_mono h₁ (fun _ s₂ h₂ => wpCl_bind (wpCl_mono h₂ (fun f s₃ h₃ => ?_) fun _ _ h' => h')) fun _ _ h' => h')
    cases f with
    | next => exact wpCl_pure (.inl ⟨rfl, h₃⟩)
    | cont => exact wpCl_pure (.inl ⟨rfl, h₃⟩)
    | brk => exact wpCl_pure h₃
    | ret v => exact wpCl_pure h₃
theorem wpCl_For {target iter body pos} {E : Value → Shared → Prop} {Q : Flow → Shared → Prop}
    (h : wpAny (model prog w) A (eval iter env) (fun x s₁ => wpAny (model prog w) A (pyIter x) (fun it s₂ =>
      codeCl (model prog w) A (.forLoop target it body [] env) (fun r s' => match r with | .ok f => Q f s' | .error e => False) s₂) E s₁) E s)
    (hs : ∀ x, foldedSetIterable iter env x = pure x := by intro _; rfl) :
    wpCl (model prog w) A (exec (.For target iter body [] pos) env) Q E s := by
  rw [exec_For]
  refine wpCl_then (wpAny_standAt (wpCl_then (wpAny_mono h (fun x s₁ h₁ => wpCl_then (wpAny_of_eq (hs x) (wpCl_then (wpAny_standAt (wpCl_then (wpAny_holding
    (wpAny_mono h₁ (fun it s₂ h₂ => ?_) fun _ _ h' => h'))))))) fun _ _ h' => h')))
  unfold runOwn
  refine wpCl_onRaise (wpCl_run (codeCl_mono h₂ fun r s' hr => ?_))
  cases r with
  | ok f => exact hr
  | error e => exact hr.elim
end
end Mine
end
section
open PySem PySem.W PyProof.Rows
set_option maxRecDepth 100000
set_option linter.unusedVariables false
namespace Mine
open PySem.Calls PySem.Spec
open Sem (wp)

theorem notMade {own : List String} {codes : List Code} (h : codes.any Code.isCaller = true) : pythonCodeMadeTheCall own codes = false := by
  unfold pythonCodeMadeTheCall
  refine Bool.and_eq_false_iff.mpr (.inl (Bool.and_eq_false_iff.mpr (.inl ?_)))
  rw [Bool.not_eq_false']
  obtain ⟨c, hc, hi⟩ := List.any_eq_true.mp h
  refine List.any_eq_true.mpr ⟨c, hc, ?_⟩
  unfold Code.isCaller at hi
  split at hi
  · rfl
  · cases hi

section
variable {M : Model} {A : Around} {E : Value → Shared → Prop} {s : Shared}
/-- under the claim's caller no refusal is marked -/
theorem wpCl_markTheRefusal {own : List String} {e : Value} {Q : Unit → Shared → Prop} (h : Q () s) : wpCl M A (markTheRefusal own e) Q E s := fun Γ p hΓ k => by
  have hc : (((Γ.code, p) :: Γ.below).map (·.1)).any Code.isCaller = true := by
    rw [List.map_cons, List.any_cons, List.any_map]
    exact Bool.or_eq_true_iff.mpr (.inr k)
  unfold markTheRefusal
  rw [Sem.wp_bind']
  show wp M Γ (if pythonCodeMadeTheCall own (((Γ.code, p) :: Γ.below).map (·.1)) = true then _ else _) _ _ p s
  rw [if_neg (by rw [notMade hc]; exact Bool.false_ne_true)]
  exact h
end

section
variable {prog : Program} {w : World} {A : Around} {R : Result → Shared → Prop} {s : Shared}
theorem codeCl_builtin {id : String} {args : Args} {b : Builtin} (hb : entryFor table id = some b)
    (h : wpCl (model prog w) (A.under (.builtin id args)) (b args)
      (fun fin s' => match fin with | .done f => R (.ok f) s' | .again c' => c'.quiet = true ∧ codeCl (model prog w) A c' R s') (fun e s' => R (.error e) s') s) :
    codeCl (model prog w) A (.builtin id args) R s := by
  refine codeCl_of_tree ?_
  show wpCl _ _ (match entryFor table id with | some b => b args | none => unsupported ((withoutEnding? id "#data").getD id)) _ _ s
  rw [hb]; exact h
end

section
variable {prog : Program} {w : World} {A : Around} {E : Value → Shared → Prop} {s : Shared}
set_option maxHeartbeats 4000000 in
theorem intText_empty {u : Tok} {Q : Value → Shared → Prop} (hh : A.handled = none)
    (h : ∀ h' tk e, Heap.NewExc s.heap h' e "ValueError" → E (.ref e) { s with heap := h', toks := tk }) :
    wpCl (model prog w) A ((int_private% "intFromText") (.str Str.empty u) [] 10) Q E s := by
  obtain ⟨hp, g, d, tk, os⟩ := s
  have e : (int_private% "intFromText") (.str Str.empty u) [] 10 = (do
    rule "int.__new__.invalid-literal"
    let shown ← pyRepr (.str Str.empty u)
    let refusal ← newExc (.type "ValueError") [← mkStr (((s!"invalid literal for int() with base {10}: " : String) ++ ⟨shown.cps.extract 0 200⟩ : Str))]
    markTheRefusal ["int.__new__"] refusal
    raiseNew refusal) := rfl
  rw [e]
  clear e
  refine wpCl_then (wpAny_rule (wpCl_then (wpAny_pyRepr_str ?_ (by decide +kernel))))
  refine wpCl_then (wpAny_mkStr ?_ (by decide +kernel))
  refine wpCl_then ?_
  unfold newExc newTuple
  refine wpAny_bind (wpAny_newObj_type ?_)
  refine wpAny_bind (m := firstArgMember _ _) (wpAny_of_eq (a := Value.none) (by simp only [firstArgMember, plainExc_ValueError.first]; rfl) ?_)
  rw [plainExc_ValueError.own]
  refine wpAny_newObj_type ?_
  refine wpCl_bind (wpCl_markTheRefusal (wpCl_of ?_))
  unfold raiseNew
  refine wpAny_bind (wpAny_handled ?_)
  rw [hh]
  first
    | refine wpAny_throw ?_
    | refine wpAny_bind (wpAny_pure (wpAny_throw ?_))
  exact h _ _ _ ⟨fun b o hb => Heap.get?_push_of_some _ (Heap.get?_push_of_some _ hb), Heap.get?_none_of_le (by simp), _, .ref hp.objs.size, Heap.get?_push_size _ rfl, rfl, by simp⟩
end
end Mine
end
section
open PySem PySem.W PyProof.Rows
set_option maxRecDepth 100000
set_option linter.unusedVariables false
namespace Mine
open PySem.Calls PySem.Spec
open Sem (wp)

theorem special_none {x : Str} {u : Tok} {n : Str} (h : typeLookup (.type "str") n = pure none) : specialOf (.str x u) n = pure none := by
  unfold specialOf
  show (pure (Value.type "str") >>= fun t => typeLookup t n) = pure none
  show typeLookup (.type "str") n = pure none
  exact h
theorem callSpecial_none {x : Str} {u : Tok} {n : Str} (h : typeLookup (.type "str") n = pure none) : callSpecial? (.str x u) n = pure none := by
  unfold callSpecial?
  rw [special_none h]
  rfl

section
variable {prog : Program} {w : World} {A : Around} {E : Value → Shared → Prop} {s : Shared}
set_option maxHeartbeats 4000000 in
theorem intObj_empty {u : Tok} {Q : Value → Shared → Prop} (hh : A.handled = none)
    (h : ∀ h' tk e, Heap.NewExc s.heap h' e "ValueError" → E (.ref e) { s with heap := h', toks := tk }) :
    wpCl (model prog w) A ((int_private% "intFromObject") (.str Str.empty u)) Q E s := by
  show wpCl _ _ (callSpecial? (.str Str.empty u) "__int__" >>= _) _ _ _
  refine wpCl_then (wpAny_of_eq (callSpecial_none KIN.str_int) ?_)
  show wpCl _ _ (specialOf (.str Str.empty u) "__index__" >>= _) _ _ _
  refine wpCl_then (wpAny_of_eq (special_none KIN.str_idx) ?_)
  show wpCl _ _ (specialOf (.str Str.empty u) "__trunc__" >>= _) _ _ _
  refine wpCl_then (wpAny_of_eq (special_none KIN.str_trunc) ?_)
  have e : (int_private% "numeralText?") (.str Str.empty u) = pure (some []) := by kernel_rfl
  show wpCl _ _ ((int_private% "numeralText?") (.str Str.empty u) >>= _) _ _ _
  refine wpCl_then (wpAny_of_eq e ?_)
  exact intText_empty hh h

set_option maxHeartbeats 4000000 in
theorem intNew_empty {u : Tok} {Q : Fin → Shared → Prop} (hh : A.handled = none)
    (h : ∀ h' tk e, Heap.NewExc s.heap h' e "ValueError" → E (.ref e) { s with heap := h', toks := tk }) :
    wpCl (model prog w) A (Builtin.«int.__new__» ⟨[.type "int", .str Str.empty u], []⟩) Q E s := by
  unfold Builtin.«int.__new__»
  show wpCl _ _ (isSubtype (.type "int") (.type "int") >>= _) _ _ _
  refine wpCl_then (wpAny_of_eq PySem.F.conv_sub_int ?_)
  show wpCl _ _ (Bind.madeHere "int.__new__" (.type "int") >>= _) _ _ _
  refine wpCl_then (wpAny_of_eq PySem.F.madeHere_int ?_)
  show wpCl _ _ ((int_private% "intFromObject") (.str Str.empty u) >>= _) _ _ _
  exact wpCl_bind (intObj_empty hh h)
set_option maxHeartbeats 4000000 in
/-- int('') raises ValueError, and under the claim's caller nothing else is changed -/
theorem int_empty {u : Tok} {Q : Value → Shared → Prop} (hh : A.handled = none)
    (h : ∀ h' tk e, Heap.NewExc s.heap h' e "ValueError" → E (.ref e) { s with heap := h', toks := tk }) :
    wpCl (model prog w) A (call (.type "int") [.str Str.empty u]) Q E s := by
  have ft := PySem.F.called_int
  obtain ⟨c, tl, hmro⟩ := ft.mro
  refine wpCl_call (codeCl_of_tree ?_)
  show wpCl _ _ (callAny (.type "int") _) _ _ _
  refine wpCl_pure ⟨Code.quiet_builtin _ (by decide +kernel), codeCl_builtin PySem.F.entry_type_call ?_⟩
  rw [Around.under_plain (weight_type_call_type "int" _ []) rfl]
  unfold Builtin.«type.__call__»
  show wpCl _ _ (checkTypeCall "int" ⟨[.str Str.empty u], []⟩ >>= _) _ _ _
  refine wpCl_then (wpAny_of_eq (PySem.F.typeCall_int_1 _) ?_)
  show wpCl _ _ (mroOf (.type "int") >>= _) _ _ _
  refine wpCl_then (wpAny_of_eq hmro ?_)
  show wpCl _ _ (Bind.madeBy (.type "int") >>= _) _ _ _
  refine wpCl_then (wpAny_of_eq ft.made ?_)
  show wpCl _ _ (holding [.builtin "int.__new__"] (call (.builtin "int.__new__") [.type "int", .str Str.empty u] []) >>= _) _ _ _
  refine wpCl_bind (wpCl_holding (wpCl_call (codeCl_of_tree ?_)))
  show wpCl _ _ (do checkBuiltinCall "int.__new__" ⟨[.type "int", .str Str.empty u], []⟩; again (.builtin "int.__new__" ⟨[.type "int", .str Str.empty u], []⟩)) _ _ _
  refine wpCl_then (wpAny_of_eq (PySem.F.newCall_int_1 _) (wpCl_pure ⟨plainId_quiet (by decide +kernel) _, codeCl_builtin PySem.F.entry_int_new ?_⟩))
  exact intNew_empty hh h
end
end Mine
end
section
open PySem PySem.W PyProof.Rows
set_option maxRecDepth 100000
set_option linter.unusedVariables false
namespace Mine.Head
open PySem.Calls PySem.Spec
open Sem (wp)

/-- the one context in which the claim's caller makes its call -/
def top : PySem.Ctx := ⟨.builtin "claim.caller" {}, none, none, [], none⟩
def wpTop {α : Type} (M : Model) (t : Sem α) (Q : α → Shared → Prop) (E : Value → Shared → Prop) (s : Shared) : Prop :=
  ∀ p, wp M top t (fun a _ s' => Q a s') (fun e _ s' => E e s') p s
theorem wpTop_of {α : Type} {M : Model} {t : Sem α} {Q : α → Shared → Prop} {E : Value → Shared → Prop} {s : Shared} (h : wpAny M callerA t Q E s) : wpTop M t Q E s := fun p => h top p caller_in
theorem wpTop_bind {α β : Type} {M : Model} {m : Sem α} {f : α → Sem β} {Q : β → Shared → Prop} {E : Value → Shared → Prop} {s : Shared} (h : wpTop M m (fun a s' => wpTop M (f a) Q E s') E s) : wpTop M (m >>= f) Q E s := fun p => by
  rw [Sem.wp_bind']
  exact Sem.wp_mono M top m (fun a p' s' h' => h' p') (fun _ _ _ h' => h') p s (h p)
theorem wpTop_mono {α : Type} {M : Model} {t : Sem α} {Q Q' : α → Shared → Prop} {E E' : Value → Shared → Prop} {s : Shared} (h : wpTop M t Q E s) (hQ : ∀ a s, Q a s → Q' a s) (hE : ∀ e s, E e s → E' e s) : wpTop M t Q' E' s :=
  fun p => Sem.wp_mono M top t (fun a _ s => hQ a s) (fun e _ s => hE e s) p s (h p)
/-- the call itself stands under the caller -/
theorem wpTop_call {M : Model} {f : Value} {pos : List Value} {Q : Value → Shared → Prop} {E : Value → Shared → Prop} {s : Shared}
    (h : codeCl M callerA (.call f ⟨pos, []⟩) (fun r s' => match r with | .ok (.ret v) => Q v s' | .ok _ => False | .error e => E e s') s) : wpTop M (call f pos) Q E s := fun p => by
  show wp M top (runValue (.call f ⟨pos, []⟩)) _ _ p s
  rw [Sem.wp_runValue]
  exact h _ p rfl (caller_in.enter _ none p (by intro x; cases x)) (by show ([(Code.builtin "claim.caller" {}, p)] : List (Code × Pos)).any (fun x => x.1.isCaller) = true; rfl)

abbrev WalkT (q : Program) (loose : List Str) (XP : (Str → Option Value) → Heap → Prop) (YP : World → Heap → Prop) (r : RowW) (d : DefRec) (kwd : List (Str × Expr)) (run : Value → List Value → Sem Value) : Prop :=
  ∀ (w : World) (s₀ s₁ : Shared) (mg mb : Str → Option Value), Ground q loose r.records XP w s₀ mg mb s₁.heap → YP w s₁.heap → ∀ (a : Addr) (o : Obj) (pm cd doc dV kV : Value), s₁.heap.get? a = some o →
    o.data = .func { docDef d.name d.params d.body d.scope pm cd doc with defaults := dV, kwdefaults := kV } → s₁.heap.CodeRec cd d.name → Dflts mg s₁.heap d.params kwd dV kV → mg d.name = some (.ref a) → s₁.gens = #[] →
    ∀ (args : List WData) (vals : List Value) (as : List Addr), r.claim.pre args = true → WData.layableAll args = true → ReadsAllW r.records (classAt s₀.heap) s₁.heap vals args as → WellAll w.params s₁.heap vals args → (∀ a ∈ as, (a == sysModules) = false) →
      wpTop (model r.prog w) (run (.ref a) vals) (fun v s' => GoodWG r.claim (classAt s₀.heap) (ExcName.means s₀.heap) args s₁ (.ok (.ret v)) s')
        (fun e s' => GoodWG r.claim (classAt s₀.heap) (ExcName.means s₀.heap) args s₁ (.error e) s') s₁

theorem callFrom {c : ClaimW} {tree : List Value → Sem Fin} {w : World} {s : Shared} {free : Addr → Prop} {gens : Prop} {kept : Heap → Prop} (hz : s.asleep) (hgens : s.gens = #[])
    (hspec : ∀ args, c.pre args = true → WData.layableAll args = true → ∀ ord : List DictEntry → List DictEntry, (∀ l, (ord l).Perm l) →
      ∃ vs s₁, layAllW c.records (classAt s.heap) w.params ord args s = some (vs, s₁) ∧
        wpTop (model c.prog w) (tree vs) (fun fin s' => ∃ f, fin = .done f ∧ (c.Ends s args vs s₁ (.ok f) s' ∧ s'.os = s.os ∧ AllBare s'.gens ∧ kept s'.heap))
          (fun e s' => c.Ends s args vs s₁ (.error e) s' ∧ s'.os = s.os ∧ AllBare s'.gens ∧ kept s'.heap) s₁) :
    c.CallFrom (fun vs => ⟨tree vs, .builtin "claim.caller" {}, default, []⟩) w free gens kept s := by
  intro args hpre hlay ord hord
  obtain ⟨vs, s₁, hlaid, hcode⟩ := hspec args hpre hlay ord hord
  have hal := layAllW_rest _ _ _ hlaid
  have hwp : wp (model c.prog w) top (tree vs) (Sem.finPost (model c.prog w) top fun r s' => (c.Ends s args vs s₁ r s' ∧ s'.os = s.os ∧ kept s'.heap) ∧ leftWithCleanup s'.gens = false)
      (fun e _ s' => (c.Ends s args vs s₁ (.error e) s' ∧ s'.os = s.os ∧ kept s'.heap) ∧ leftWithCleanup s'.gens = false) default s₁ := by
    refine Sem.wp_mono _ top _ (fun fin p' s' h' => ?_) (fun e p' s' h' => ?_) default s₁ (hcode default)
    · obtain ⟨f, rfl, h1, h2, h3, h4⟩ := h'
      exact ⟨⟨h1, h2, h4⟩, leftWithCleanup_false_of_bare h3⟩
    · obtain ⟨h1, h2, h3, h4⟩ := h'
      exact ⟨⟨h1, h2, h4⟩, leftWithCleanup_false_of_bare h3⟩
  obtain ⟨k, r, s'', s', hsched, hrun, hfo, hcase, hos, hkp⟩ := wp_halts_full (M := model c.prog w) (R := fun r s' => c.Ends s args vs s₁ r s' ∧ s'.os = s.os ∧ kept s'.heap) (Shared.asleep_of_life hal.2.2.2 hz) hwp
  obtain ⟨eh, _, _, eo, _⟩ := Shared.forget_eq hfo
  have hcase := hcase.congr eh
  have hkp : kept s'.heap := by rw [eh]; exact hkp
  rw [← eo] at hos
  have hlife : s'.heap.life = s.heap.life := (runN_life _ _ _ hrun).trans hal.2.2.2
  refine ⟨vs, s₁, hlaid, k, _, s', hsched, ?_, (fun _ i x hx => by rw [hgens] at hx; simp at hx), hkp, by rw [hlife], Shared.rest_eq hos⟩
  rcases hcase with ⟨v, rfl, d1, d2, d3, d4, d5⟩ | ⟨e, ob, cls, rfl, d1, d2, d3, d4, d5⟩
  · exact .inl ⟨v, rfl, d1, d2, d3, fun b o y _ => d4 b o y, d5⟩
  · exact .inr ⟨e, ob, cls, rfl, d1, d2, d3, d4, fun b o y _ => d5 b o y⟩

/-- the head, as the library's, but asking for the call in the one context of the claim -/
theorem PySem.W.holds_open {r : OpenRow} {q : Program} {loose : List Str} {Xt : Shared → Bool} {XP : (Str → Option Value) → Heap → Prop} {α : Type} {Yf : Shared → α} {Ya : World → α} {YP : World → Heap → Prop} {d : DefRec} {kwd : List (Str × Expr)} {N : Nat}
    (left : LeftO r.prog q loose Xt Yf Ya N) (hY : ∀ w s, Yf s = Ya w → YP w s.heap) (hYk : ∀ w h h', YP w h → (∀ b o, h.get? b = some o → h'.get? b = some o) → YP w h')
    (hX : ∀ s, Xt s = true → XP (s.heap.nsMap mainGlobals) s.heap) (hXk : ∀ mg h h', XP mg h → (∀ b o, h.get? b = some o → h'.get? b = some o) → XP mg h')
    (hdef : defOf q r.name = some (d, kwd)) (hp : r.prog.theDef r.name = some (d.params, d.body, d.scope)) (hk : kwWritten? d.params.kwonlyargs d.params.kw_defaults = some kwd) (hRf : ∀ s, Xt s = true → RecFacts r.records s.heap) (hwr : (!r.writes || r.records.isEmpty) = true)
    (k1 : r.wellSaid = true) (ok : (chainsOk q && opensWell r.prog && (frees r.toRowW && r.within.isEmpty)) = true) (hb : r.prog.bare) (hw : r.toRowW.promised)
    (call : WalkT q loose XP YP r.toRowW d kwd fun f vs => PySem.call f vs) : r.Holds := by
  obtain ⟨ok, k5⟩ := Bool.and_eq_true_iff.mp ok
  obtain ⟨hch, o1⟩ := Bool.and_eq_true_iff.mp ok
  obtain ⟨k5, k6⟩ := Bool.and_eq_true_iff.mp k5
  obtain ⟨hsame, hu, ha, hap, hm⟩ := frees_parts k5
  refine ⟨k1, hw, ⟨hb, o1, by show r.toRowW.makers.map _ = []; rw [hm]; rfl⟩, hw.witness, fun w => ⟨(left.behind hX hch w).1, fun s' hs' => ?_⟩⟩
  obtain ⟨s₀, hf, hg0, s, hT, hz, hgens, hg, G00, y⟩ := (left.behind (XP := fun mg h => XP mg h ∧ RecFacts r.records h) (fun s hs => ⟨hX s hs, hRf s hs⟩) hch w).2 s' hs'
  have G0 : Ground q loose [] XP w s (s.heap.nsMap mainGlobals) (s.heap.nsMap builtinsNs) s.heap := ⟨G00.T, G00.B, G00.D, G00.TE, G00.TD, G00.W, G00.X.1, G00.cls, G00.has, G00.apart, G00.once, G00.K⟩
  have RF := G00.X.2
  have hT' := hT
  refine ⟨s₀, hf, hg0, s, hT, ?pin, RF.1, RF.2.1, ?call⟩
  case pin =>
    intro n hn
    obtain rfl : n = r.name := by split at hn <;> simp_all
    exact pinned_of_view hg G0 hdef hp hk
  case call =>
  have hgens : s.gens = #[] := Array.eq_empty_of_size_eq_zero (beq_iff_eq.mp hgens)
  have G : Ground q loose r.records XP w s _ _ s.heap := RF.ground G0
  refine callFrom (c := r.toRowW.claim) hz hgens fun args hpre hlay ord hord => ?_
  obtain ⟨⟨vs, s₁⟩, hlaid⟩ := Option.isSome_iff_exists.mp (layAllW_isSome (P := w.params) (ord := ord) G.has args r.args s (pre_splitW hpre).1)
  have keeps := layAllW_keeps _ _ _ hlaid
  have hal := layAllW_rest _ _ _ hlaid
  obtain ⟨as, hrd, hin, hold⟩ := reads_layAllW hord _ _ _ hlaid hlay s₁.heap (fun _ _ e => e)
  have L : Laid r.records w s s₁ args vs as := ⟨⟨ord, hord, hlaid⟩, hrd, hin, hold, keeps, hal.1.trans hgens, hal.2.2.1⟩
  have G₁ := G.keeps hXk keeps
  obtain ⟨a, o, pm, cd, doc, dV, kV, h1, h2, h3, h4, h5⟩ := G₁.fn hdef
  have h := call w s s₁ _ _ G₁ (hYk _ _ _ (hY w s y) keeps) a o pm cd doc dV kV h2 h3 h4 h5 (defOf_name hdef ▸ h1) L.gens args vs as hpre hlay L.reads L.well (L.low G.low)
  have hi := ident_freeW hu ha hap
  have hwi : r.toRowW.claim.within = [] := List.isEmpty_iff.mp k6
  refine ⟨vs, s₁, hlaid, wpTop_bind (wpTop_of (wpAny_nsGet G₁.T.g ?_))⟩
  rw [h1]
  refine wpTop_bind (wpTop_mono h (fun v s' g => ?_) fun e s' g => ?_)
  · refine wpTop_of (wpAny_pure ⟨_, rfl, ?_⟩)
    have z := g.laid (c := r.toRowW.claim) hsame hwi hi L
    exact ⟨z.1, z.2.1, z.2.2, fun q => ⟨namesKept_of hT' hg _ keeps g.2.1.old, noTable hwr q⟩⟩
  · have z := g.laid (c := r.toRowW.claim) hsame hwi hi L
    exact ⟨z.1, z.2.1, z.2.2, fun q => ⟨namesKept_of hT' hg _ keeps g.2.1.old, noTable hwr q⟩⟩
end Mine.Head
end
section
open PySem PySem.W PyProof.Rows
namespace Mine.Head
set_option maxRecDepth 100000 in
set_option maxHeartbeats 8000000 in
open_top hd for PySem.Challenge.rw_pg0021_01
/-- the walk's flag, as it stands at a fresh start -/
theorem quiet : True := by
  w_top off
  trivial
end Mine.Head
end
section
open PySem PySem.W PyProof.Rows
set_option linter.unusedVariables false
namespace Mine

/-- what parse229 makes of a text -/
inductive Told where
  | reply
  | proto
  | value
  | port (n : Int)
deriving DecidableEq

def lf (x : Str) : Int := Txt.find x (Str.ofString "(")
def rt (x : Str) : Int := Txt.find3 x (Str.ofString ")") (lf x + 1)
def prts (x : Str) : List Str := Txt.split (Txt.slice x (some (lf x + 1)) (some (rt x))) (Txt.item x (lf x + 1))

def toldT (x : Str) : Told :=
  if (Txt.slice x none (some 3) != Str.ofString "229") = true then .reply
  else if lf x < 0 then .proto
  else if rt x < 0 then .proto
  else if (Txt.item x (lf x + 1) != Txt.item x (rt x - 1)) = true then .proto
  else if ((prts x).length : Int) = 5 then (match (prts x)[3]? with | some z => (match PySem.intText? z with | none => .value | some n => .port n) | none => .value)
  else .proto

/-- the int that is read is one, or the text is empty -/
def readable (x : Str) : Prop := (Txt.slice x none (some 3) != Str.ofString "229") = false → ¬ lf x < 0 → ¬ rt x < 0 → (Txt.item x (lf x + 1) != Txt.item x (rt x - 1)) = false →
  ((prts x).length : Int) = 5 → ∀ z, (prts x)[3]? = some z → z = Str.empty ∨ ∃ n, PySem.intText? z = some n

/-- the answer's two places -/
def IsTold (x y : Str) (r : Told) (v1 v2 : Value) : Prop := match r with
  | .reply => ∃ ta tb, v1 = .str (Str.ofString "reply") ta ∧ v2 = .str x tb
  | .proto => ∃ ta tb, v1 = .str (Str.ofString "proto") ta ∧ v2 = .str x tb
  | .value => ∃ ta tb, v1 = .str (Str.ofString "value") ta ∧ v2 = .str (Str.ofString "") tb
  | .port n => ∃ ta tb, v1 = .str y ta ∧ v2 = .int n tb

theorem fromIndex_in {n : Nat} {i : Int} (h0 : 0 ≤ i) (h1 : i ≤ n) : ((PySem.fromIndex n i : Nat) : Int) = i := by
  unfold PySem.fromIndex
  first | (split <;> omega) | (simp only []; omega) | omega

theorem paren_open : Str.ofString "(" = ⟨#[40]⟩ := by decide +kernel
theorem paren_close : Str.ofString ")" = ⟨#[41]⟩ := by decide +kernel
theorem lf_facts {x : Str} (h : ¬ Txt.find x (Str.ofString "(") < 0) : 0 ≤ Txt.find x (Str.ofString "(") ∧ Txt.find x (Str.ofString "(") < x.length := by
  rw [find_is_find3, paren_open] at *
  rcases StrLaws.find3_spec x 40 0 with ⟨h1, _⟩ | ⟨k, h1, _, h2, _⟩
  · omega
  · omega
theorem rt_facts {x : Str} (h0 : ¬ Txt.find x (Str.ofString "(") < 0) (h1 : ¬ Txt.find3 x (Str.ofString ")") (Txt.find x (Str.ofString "(") + 1) < 0) :
    Txt.find x (Str.ofString "(") + 1 ≤ Txt.find3 x (Str.ofString ")") (Txt.find x (Str.ofString "(") + 1) ∧ Txt.find3 x (Str.ofString ")") (Txt.find x (Str.ofString "(") + 1) < x.length := by
  obtain ⟨a, b⟩ := lf_facts h0
  rw [paren_close] at *
  rcases StrLaws.find3_spec x 41 (Txt.find x (Str.ofString "(") + 1) with ⟨e, _⟩ | ⟨k, e, f, g, _⟩
  · omega
  · have := fromIndex_in (n := x.length) (i := Txt.find x (Str.ofString "(") + 1) (by omega) (by omega)
    omega

theorem news_sub {h₀ h : Heap} {L : Addr} {l l' : List (Addr × Obj)} (N : News h₀ L h l') (hs : ∀ q ∈ l, q ∈ l') : News h₀ L h l := fun q hq => N q (hs q hq)

section
variable {x y : Str} {ta tb : Tok}
theorem is_reply (h : (Txt.slice x none (some 3) != Str.ofString "229") = true) : IsTold x y (toldT x) (.str (Str.ofString "reply") ta) (.str x tb) := by
  unfold toldT; rw [if_pos h]; exact ⟨ta, tb, rfl, rfl⟩
theorem is_proto1 (h : (Txt.slice x none (some 3) != Str.ofString "229") = false) (h1 : Txt.find x (Str.ofString "(") < 0) : IsTold x y (toldT x) (.str (Str.ofString "proto") ta) (.str x tb) := by
  unfold toldT; rw [if_neg (by rw [h]; exact Bool.false_ne_true), if_pos (show lf x < 0 from h1)]; exact ⟨ta, tb, rfl, rfl⟩
theorem is_proto2 (h : (Txt.slice x none (some 3) != Str.ofString "229") = false) (h1 : ¬ Txt.find x (Str.ofString "(") < 0) (h2 : Txt.find3 x (Str.ofString ")") (Txt.find x (Str.ofString "(") + 1) < 0) : IsTold x y (toldT x) (.str (Str.ofString "proto") ta) (.str x tb) := by
  unfold toldT; rw [if_neg (by rw [h]; exact Bool.false_ne_true), if_neg (show ¬ lf x < 0 from h1), if_pos (show rt x < 0 from h2)]; exact ⟨ta, tb, rfl, rfl⟩
theorem is_proto3 (h : (Txt.slice x none (some 3) != Str.ofString "229") = false) (h1 : ¬ Txt.find x (Str.ofString "(") < 0) (h2 : ¬ Txt.find3 x (Str.ofString ")") (Txt.find x (Str.ofString "(") + 1) < 0)
    (h3 : (Txt.item x (Txt.find x (Str.ofString "(") + 1) != Txt.item x (Txt.find3 x (Str.ofString ")") (Txt.find x (Str.ofString "(") + 1) - 1)) = true) : IsTold x y (toldT x) (.str (Str.ofString "proto") ta) (.str x tb) := by
  unfold toldT; rw [if_neg (by rw [h]; exact Bool.false_ne_true), if_neg (show ¬ lf x < 0 from h1), if_neg (show ¬ rt x < 0 from h2), if_pos (show (Txt.item x (lf x + 1) != Txt.item x (rt x - 1)) = true from h3)]; exact ⟨ta, tb, rfl, rfl⟩
theorem told_on (h : (Txt.slice x none (some 3) != Str.ofString "229") = false) (h1 : ¬ Txt.find x (Str.ofString "(") < 0) (h2 : ¬ Txt.find3 x (Str.ofString ")") (Txt.find x (Str.ofString "(") + 1) < 0)
    (h3 : (Txt.item x (Txt.find x (Str.ofString "(") + 1) != Txt.item x (Txt.find3 x (Str.ofString ")") (Txt.find x (Str.ofString "(") + 1) - 1)) = false) :
    toldT x = if ((prts x).length : Int) = 5 then (match (prts x)[3]? with | some z => (match PySem.intText? z with | none => .value | some n => .port n) | none => .value) else .proto := by
  unfold toldT; rw [if_neg (by rw [h]; exact Bool.false_ne_true), if_neg (show ¬ lf x < 0 from h1), if_neg (show ¬ rt x < 0 from h2), if_neg (show ¬ (Txt.item x (lf x + 1) != Txt.item x (rt x - 1)) = true from by show ¬ (Txt.item x (Txt.find x (Str.ofString "(") + 1) != Txt.item x (Txt.find3 x (Str.ofString ")") (Txt.find x (Str.ofString "(") + 1) - 1)) = true; rw [h3]; exact Bool.false_ne_true)]
theorem is_proto4 (h : (Txt.slice x none (some 3) != Str.ofString "229") = false) (h1 : ¬ Txt.find x (Str.ofString "(") < 0) (h2 : ¬ Txt.find3 x (Str.ofString ")") (Txt.find x (Str.ofString "(") + 1) < 0)
    (h3 : (Txt.item x (Txt.find x (Str.ofString "(") + 1) != Txt.item x (Txt.find3 x (Str.ofString ")") (Txt.find x (Str.ofString "(") + 1) - 1)) = false) {l : List (Str × Tok)} (hl : l.map (fun x => x.fst) = prts x) (h4 : ¬ (l.length : Int) = 5) : IsTold x y (toldT x) (.str (Str.ofString "proto") ta) (.str x tb) := by
  rw [told_on h h1 h2 h3, if_neg (by rw [← hl, List.length_map]; exact h4)]; exact ⟨ta, tb, rfl, rfl⟩
theorem intText_nil : PySem.intText? Str.empty = none := by decide +kernel
theorem is_value (h : (Txt.slice x none (some 3) != Str.ofString "229") = false) (h1 : ¬ Txt.find x (Str.ofString "(") < 0) (h2 : ¬ Txt.find3 x (Str.ofString ")") (Txt.find x (Str.ofString "(") + 1) < 0)
    (h3 : (Txt.item x (Txt.find x (Str.ofString "(") + 1) != Txt.item x (Txt.find3 x (Str.ofString ")") (Txt.find x (Str.ofString "(") + 1) - 1)) = false) {l : List (Str × Tok)} (hl : l.map (fun x => x.fst) = prts x) (h4 : (l.length : Int) = 5) (h5 : (l.map (fun x => x.fst))[Int.toNat 3]? = some Str.empty) : IsTold x y (toldT x) (.str (Str.ofString "value") ta) (.str (Str.ofString "") tb) := by
  rw [told_on h h1 h2 h3, if_pos (by rw [← hl, List.length_map]; exact h4), ← hl, show (3 : Nat) = Int.toNat 3 from rfl, h5]
  dsimp only
  rw [intText_nil]; exact ⟨ta, tb, rfl, rfl⟩
theorem is_port (h : (Txt.slice x none (some 3) != Str.ofString "229") = false) (h1 : ¬ Txt.find x (Str.ofString "(") < 0) (h2 : ¬ Txt.find3 x (Str.ofString ")") (Txt.find x (Str.ofString "(") + 1) < 0)
    (h3 : (Txt.item x (Txt.find x (Str.ofString "(") + 1) != Txt.item x (Txt.find3 x (Str.ofString ")") (Txt.find x (Str.ofString "(") + 1) - 1)) = false) {l : List (Str × Tok)} (hl : l.map (fun x => x.fst) = prts x) (h4 : (l.length : Int) = 5) {z : Str} {n : Int} (h5 : (l.map (fun x => x.fst))[Int.toNat 3]? = some z) (h6 : PySem.intText? z = some n) : IsTold x y (toldT x) (.str y ta) (.int n tb) := by
  rw [told_on h h1 h2 h3, if_pos (by rw [← hl, List.length_map]; exact h4), ← hl, show (3 : Nat) = Int.toNat 3 from rfl, h5]
  dsimp only
  rw [h6]; exact ⟨ta, tb, rfl, rfl⟩
end
end Mine
end
section
open PySem PySem.W PyProof.Rows
set_option linter.unusedVariables false
namespace Mine
open Mine.Head
local macro_rules | `(tactic| walk_at "subscriptTail") => `(tactic| (k_here; (with_reducible show wpAny _ _ (subscriptTail _ _ (Value.str _ _) (Value.int _ _)) _ _ _); (have hb1 := lf_facts (by assumption)); (have hb2 := rt_facts (by assumption) (by assumption)); (refine item_str (fitsSsize_of (N := 9223372036854775808) (by omega) (by omega) (Int.le_refl _)) (by omega) (by omega) ?_); clear hb1 hb2; intro _))
local macro_rules | `(tactic| walk_at "call type:str") => `(tactic| (k_here; (with_reducible show wpAny _ _ (call (Value.type "str") [Value.ref _]) _ _ _); (refine' str_own_got (C := _) ?N ?G (Frag.In.keeps (by k_asm) (Fr.keep (by k_asm))) ?hf ?hm ?U ?_; (case G => assumption); (case N => assumption); (case hf => k_is); (case hm => k_is); (case U => first | units_room | k_room); k_whole)))
theorem told_drop {h₀ h : Heap} {L : Addr} {a b : Addr × Obj} {l : List (Addr × Obj)} (N : News h₀ L h (a :: b :: l)) : News h₀ L h (a :: l) := fun q hq => by
  rcases List.mem_cons.mp hq with e | hq
  · exact N q (List.mem_cons.mpr (.inl e))
  · exact N q (.tail _ (.tail _ hq))
set_option maxRecDepth 100000 in
set_option maxHeartbeats 8000000 in
theorem told_cl (w : World) (mean : ExcName → Option Value) (mg mb : Str → Option Value) (news : List (Addr × Obj)) (x y : Str) (t t1 t2 : Tok) (p : Addr) (hx : x.length ≤ 600)
  (cn : Str) (nm : List (Str × NameKind)) (mo : List (Str × Const)) (a : Addr) (ccd : Value) (h₀ : Heap) (L : Addr) (m : Str → Option Value) (s : Shared) (Q E : Value → Shared → Prop)
   (B : Below callerA h₀ [] h₀) (F : Fr h₀ L s.heap m) (X : (hd.heap_39 w.params).In h₀) (N : News h₀ L s.heap ((p, { cls := .type "tuple", data := .seq #[.str y t1, .int 21 t2] 0}) :: news)) (T : Top hd.view_39 (looseW hd.view_39 []) mean mg mb h₀) (hgood : readable x)
   (hret : ∀ D v1 v2 h' tk', Fr h₀ L h' m → News h₀ L h' ((D, { cls := .type "tuple", data := .seq #[v1, v2] 0}) :: (p, { cls := .type "tuple", data := .seq #[.str y t1, .int 21 t2] 0}) :: news) → IsTold x y (toldT x) v1 v2 → Q (.ref D) { s with heap := h', toks := tk' }) :
    wpCl (model PySem.Challenge.rw_pg0021_01.row.prog w) (callerA.deeper (envOf cn { kind := .function, names := nm, isGenerator := false, isCoroutine := false, more := mo } L a ccd)) (call (.ref 72) [.str x t, .ref p]) Q E s := by
  revert T N X; k_fill; intro X N T
  refine wpCl_call ?_
  w_strict (
    (refine' code_defS0Cl ?k1 ?k2 ?k3 ?k4 ?k5 ?kA ?k6 ?k7 ?k8 ?k9 ?kB ?_ ?cK ?c2 ?c3 ?c4 ?c5; (case kA => exact rfl); (case k2 => k_asm); (case k1 => k_asm); (case k3 => k_asm); (case k4 => k_asm); (case k5 => k_asm); (case k6 => k_is); (case k7 => k_is); (case k8 => k_room); (case k9 => exact BindsTo.of_eq rfl); (case kB => exact locs rfl); (case cK => exact rfl); (case c2 => exact rfl); (case c3 => exact rfl); (case c4 => exact rfl); (case c5 => decide); k_whole; intro g' L' h' FG' F' N' B' X' T' D'; (try dsimp only); (try k_lift B'); (try k_fold))
    refine wpCl_execs_cons ?_
    refine wpCl_Try ?_
    refine wpCl_execs_cons ?_
    refine wpCl_Return_some ?_
    refine wpCl_Call ?_
    k_steps
    refine callWithCl_K (K := hd.heap_39 w.params) (by k_is) ?_
    k_steps
    refine wpCl_call ?_
    (refine' code_defCl ?k1 ?k2 ?k3 ?k4 ?k5 ?kA ?kF ?kK ?k6 ?k7 ?k8 ?k9 ?kB ?_ ?c2 ?c3 ?c4 ?c5; (case kA => exact rfl); (case kF => exact rfl); (case kK => exact rfl); (case k1 => k_asm); (case k2 => k_asm); (case k3 => k_asm); (case k4 => k_asm); (case k5 => k_asm); (case k6 => k_is); (case k7 => k_is); (case k8 => k_room); (case k9 => exact BindsTo.of_eq rfl); (case c5 => decide); (case kB => exact locs rfl); (case c2 => exact rfl); (case c3 => exact rfl); (case c4 => exact rfl); k_whole; intro g' L' h' FG' F' N' B' X' T'; (try dsimp only); (try k_lift B'))
    any_goals (refine wpCl_execs_then ?_; (try k_fold); k_steps)
    any_goals (refine wpCl_execs_then ?_; (try k_fold); k_steps)
    any_goals (refine wpCl_execs_then ?_; (try k_fold); k_steps)
    any_goals (refine wpCl_execs_then ?_; (try k_fold); k_steps)
    any_goals (refine wpCl_execs_then ?_; (try k_fold); k_steps)
    any_goals (refine wpCl_execs_then ?_; (try k_fold); k_steps)
    any_goals (refine wpCl_execs_then ?_; (try k_fold); k_steps)
    any_goals (refine wpCl_execs_then ?_; (try k_fold); k_steps)
    any_goals (refine wpCl_execs_then ?_; (try k_fold); k_steps)
    any_goals (refine wpCl_execs_cons ?_; refine wpCl_Assign_Name ?_; refine wpCl_Call ?_; (try k_fold); k_steps; refine callWithCl_type ?_; (try k_fold); k_steps)
    rotate_left 5
    focus
      with_reducible rename (List.map _ _)[Int.toNat 3]? = some _ => hz3
      with_reducible rename List.map _ _ = Txt.split _ _ => hl3
      rename ((List.length _ : Nat) : Int) = 5 => h53
      have hz := hgood (by assumption) (by assumption) (by assumption) (by assumption) (by rw [show prts x = _ from hl3.symm, List.length_map]; exact h53) _ (by rw [show prts x = _ from hl3.symm]; exact hz3)
      rename ∀ a, a ∈ List.map _ _ → PySem.Str.length a ≤ _ => hall
      have hzl := Nat.le_trans (hall _ (List.mem_of_getElem? hz3)) (Txt.slice_le _ _ _)
      rcases hz with hz | ⟨n, hz⟩
      · rw [hz]
        rw [hz] at hz3
        refine int_empty rfl ?_
        intro h' tk' e' hx'
        (try dsimp only)
        k_steps
        first
          | exact hret _ _ _ _ _ (by assumption) (by assumption) (is_value (by assumption) (by assumption) (by assumption) (by assumption) hl3 h53 hz3)
          | exact hret _ _ _ _ _ (by assumption) (told_drop (by assumption)) (is_value (by assumption) (by assumption) (by assumption) (by assumption) hl3 h53 hz3)
      · refine wpCl_of (KIN.call_text hz (by omega) ?_)
        k_steps
        refine wpCl_of ?_
        k_steps
        first
          | exact hret _ _ _ _ _ (by assumption) (by assumption) (is_port (by assumption) (by assumption) (by assumption) (by assumption) hl3 h53 hz3 hz)
          | exact hret _ _ _ _ _ (by assumption) (told_drop (by assumption)) (is_port (by assumption) (by assumption) (by assumption) (by assumption) hl3 h53 hz3 hz)
    · exact hret _ _ _ _ _ (by assumption) (by assumption) (is_reply (by assumption))
    · exact hret _ _ _ _ _ (by assumption) (by assumption) (is_proto1 (by assumption) (by assumption))
    · exact hret _ _ _ _ _ (by assumption) (by assumption) (is_proto2 (by assumption) (by assumption) (by assumption))
    · exact hret _ _ _ _ _ (by assumption) (by assumption) (is_proto3 (by assumption) (by assumption) (by assumption) (by assumption))
    · with_reducible rename List.map _ _ = Txt.split _ _ => hl3
      first
        | exact hret _ _ _ _ _ (by assumption) (by assumption) (is_proto4 (by assumption) (by assumption) (by assumption) (by assumption) hl3 (by assumption))
        | exact hret _ _ _ _ _ (by assumption) (told_drop (by assumption)) (is_proto4 (by assumption) (by assumption) (by assumption) (by assumption) hl3 (by assumption)))
end Mine
end
section
open PySem PySem.W PyProof.Rows
set_option linter.unusedVariables false
namespace Mine
open Mine.Head
def lawParts : List Stmt × Scope := match PySem.Challenge.pw_pg0021_01.main.body.drop 9 with
  | .FunctionDef _ _ body _ _ _ scope _ _ _ :: _ => (body, scope)
  | _ => ([], { kind := .function, names := [], isGenerator := false, isCoroutine := false })
def lawBody : List Stmt := lawParts.1
def lawSt (k : Nat) : Stmt := (lawBody.drop k).headD (.Pass ⟨0, 0, 0, 0⟩)
theorem lawBody_is : lawBody = [lawSt 0, lawSt 1, lawSt 2, lawSt 3, lawSt 4, lawSt 5, lawSt 6, lawSt 7, lawSt 8, lawSt 9, lawSt 10, lawSt 11] := rfl
abbrev lawScope : Scope := lawParts.2
abbrev lawEnv (L fa : Addr) (cd : Value) : Env := envOf (Str.ofString "law") lawScope L fa cd
abbrev lawM (w : World) : Model := model PySem.Challenge.rw_pg0021_01.row.prog w
abbrev lawA (L fa : Addr) (cd : Value) : Around := callerA.deeper (lawEnv L fa cd)
/-- what the whole call knows -/
structure LawCtx (w : World) (mean : ExcName → Option Value) (mg mb : Str → Option Value) (h₀ : Heap) (sl : Addr) (vs : List Value) (ns : List Int) : Prop where
  B : Below callerA h₀ [] h₀
  X : (hd.heap_39 w.params).In h₀
  T : Top hd.view_39 (looseW hd.view_39 []) mean mg mb h₀
  hL : h₀.IsList sl vs.toArray
  hI : IntsAre vs ns
  hlay : (PyData.list (List.map PyData.int ns)).layable0 = true
  hlen : ns.length ≤ 63
def Stop (P : Prop) : Prop := P
theorem stop_here {P : Prop} (h : Stop P) : P := h
def Holding (m : Str → Option Value) : List (Str × Value) → Prop
  | [] => True
  | p :: r => m p.1 = some p.2 ∧ Holding m r
theorem Holding.all {m : Str → Option Value} : ∀ {ps : List (Str × Value)}, Holding m ps → ∀ p ∈ ps, m p.1 = some p.2
  | _ :: _, h, p, hp => by
    rcases List.mem_cons.mp hp with rfl | hp
    · exact h.1
    · exact Holding.all h.2 p hp
theorem frB {h₀ h : Heap} {L : Addr} {m : Str → Option Value} {ps : List (Str × Value)} (F : Fr h₀ L h m) (hp : Holding m ps) : Fr h₀ L h (kstB m ps) := by
  have e : kstB m ps = m := funext fun z => kstB_eq hp.all fun _ => rfl
  rw [e]; exact F
/-- the word's sign for an int of the script -/
def sgnOf (n : Int) : Str := Txt.item (Str.ofString "a.)7|") (n.fmod 5)
def wordS (ns : List Int) : Str := Txt.join (Str.ofString "") ((ns.take 5).map sgnOf)
theorem sgn_len (n : Int) : (sgnOf n).length = 1 := rfl
section
local macro_rules | `(tactic| walk_at "call builtin:str.join") => `(tactic| (k_here; (with_reducible show wpAny _ _ (call (Value.builtin "str.join") [Value.str _ _, Value.ref _]) _ _ _); (with_reducible rename CarriedAll _ (List.map _ _) => ktC); (refine KT.join_1 (by first | assumption | is_list | exact News.isList (by k_asm) (by k_mem)) ktC (fun a _ => sgn_len a) (by omega) ?_; intro _ _ ktE)))
local macro_rules | `(tactic| walk_at "CompSrc") => `(tactic| (k_here; refine stop_here ?_))
set_option maxRecDepth 100000 in
set_option maxHeartbeats 2000000 in
theorem st0 {w : World} {mean : ExcName → Option Value} {mg mb : Str → Option Value} {h₀ : Heap} {sl : Addr} {vs : List Value} {ns : List Int} {fa : Addr} {cd : Value} {L : Addr} {s : Shared} {Q : Flow → Shared → Prop} {E : Value → Shared → Prop} {ρ : Str → Option Value}
    (C : LawCtx w mean mg mb h₀ sl vs ns)
    (F : Fr h₀ L s.heap (kstB ρ [(Str.ofString "script", Value.ref sl)]))
    (hnext : ∀ (ρ : Str → Option Value) t h' tk', (wordS ns).length = (ns.take 5).length → Fr h₀ L h' (kstB ρ [(Str.ofString "script", Value.ref sl), (Str.ofString "word", .str (wordS ns) t)]) → Q .next { s with heap := h', toks := tk' }) :
    wpAny (lawM w) (lawA L fa cd) (exec (lawSt 0) (lawEnv L fa cd)) Q E s := by
  obtain ⟨B, X, T, hL, hI, hlay, hlen⟩ := C
  revert X; k_fill; intro X
  have N : News h₀ L s.heap [] := News.nil
  show wpAny _ (callerA.deeper (envOf _ ⟨_, _, _, _, _⟩ _ _ _)) (exec (Stmt.Assign _ _ _) (envOf _ ⟨_, _, _, _, _⟩ _ _ _)) _ _ _
  w_strict (
    k_steps
    unfold Stop
    refine LCg.CompSrc.ledger (by rfl) (by k_asm) (by k_asm) (by k_mem) (by kcf_size) ?_
    intro g'
    refine kct_list sgnOf (by assumption) (fun k' t' I' oI' C' oC' D' m' ys' h' tk' E' hk' hC' hx' F' N' off' ne' hMark' => ?_) ?_
    · simp only [LCg.Off3, and_true] at off'
      (try k_fold)
      k_steps
      exact ⟨rfl, _, rfl⟩
    · unfold KPfDone LCg.FinE
      intro ys hC8 hl8 D8 h8 tk8 F8 N8 off8
      simp only [LCg.Off1, and_true] at off8
      (try dsimp only)
      k_steps
      rename Fr h₀ L _ (fun y => if y = Str.ofString "word" then _ else _) => F9
      exact hnext _ _ _ _ (by assumption) (frB F9 ⟨rfl, rfl, trivial⟩))
end
end Mine
end
section
open PySem PySem.W PyProof.Rows
set_option linter.unusedVariables false
namespace Mine
open Mine.Head
/-- the figures -/
def figs (ns : List Int) : List Int := [9, 0, 3, 1, 7, 4, 6, 2, 5, 8, 2, 0, 3] ++ (ns.take 8).map (fun a => (a.fdiv 5).fmod 10)
theorem filter_tt' {α : Type} (l : List α) : List.filter (fun _ => true) l = l := by simp
set_option maxRecDepth 100000 in
set_option maxHeartbeats 2000000 in
theorem st1 {w : World} {mean : ExcName → Option Value} {mg mb : Str → Option Value} {h₀ : Heap} {sl : Addr} {vs : List Value} {ns : List Int} {fa : Addr} {cd : Value} {L : Addr} {s : Shared} {Q : Flow → Shared → Prop} {E : Value → Shared → Prop} {ρ : Str → Option Value} {wv : Value}
    (C : LawCtx w mean mg mb h₀ sl vs ns)
    (F : Fr h₀ L s.heap (kstB ρ [(Str.ofString "script", Value.ref sl), (Str.ofString "word", wv)]))
    (hnext : ∀ (ρ : Str → Option Value) D us h' tk', IntsAre us (figs ns) → Fr h₀ L h' (kstB ρ [(Str.ofString "script", Value.ref sl), (Str.ofString "word", wv), (Str.ofString "figures", .ref D)]) → News h₀ L h' [(D, listOf us.toArray 0)] → Q .next { s with heap := h', toks := tk' }) :
    wpAny (lawM w) (lawA L fa cd) (exec (lawSt 1) (lawEnv L fa cd)) Q E s := by
  obtain ⟨B, X, T, hL, hI, hlay, hlen⟩ := C
  have N : News h₀ L s.heap [] := News.nil
  show wpAny (model PySem.Challenge.rw_pg0021_01.row.prog w) (callerA.deeper (envOf _ ⟨_, _, _, _, _⟩ _ _ _)) (exec (Stmt.Assign _ _ _) (envOf _ ⟨_, _, _, _, _⟩ _ _ _)) _ _ _
  revert X; k_fill; intro X
  w_strict (
    k_steps
    rename CarriedAll _ _ => hCa
    rename Heap.IsList _ _ _ => hLD
    rename News _ _ _ (_ :: _ :: _) => hN9
    rw [filter_tt'] at hCa
    refine kmk_add_ints (ns := [9, 0, 3, 1, 7, 4, 6, 2, 5, 8, 2, 0, 3]) (by assumption) (by assumption) (vs := [_, _, _, _, _, _, _, _, _, _, _, _, _]) (News.isList hN9 (.tail _ (.head _))) hLD (.cons _ _ (.cons _ _ (.cons _ _ (.cons _ _ (.cons _ _ (.cons _ _ (.cons _ _ (.cons _ _ (.cons _ _ (.cons _ _ (.cons _ _ (.cons _ _ (.cons _ _ .nil))))))))))))) (CarriedAll.intsOf hCa) ?_ (by rw [sizeLine_eq, List.length_map, List.length_take]; simp only [List.length_cons, List.length_nil]; omega)
    intro D9 us9 h9 F9 N9 l9 hI9
    (try dsimp only)
    k_steps
    rename Fr h₀ L _ (fun y => if y = Str.ofString "figures" then _ else _) => F8
    rename News h₀ L _ ((D9, _) :: _) => N8
    exact hnext _ _ _ _ _ hI9 (frB F8 ⟨rfl, rfl, rfl, trivial⟩) (news_sub N8 (fun q hq => by rw [List.mem_singleton.mp hq]; exact .head _)))
set_option maxRecDepth 100000 in
set_option maxHeartbeats 2000000 in
theorem st2 {w : World} {mean : ExcName → Option Value} {mg mb : Str → Option Value} {h₀ : Heap} {sl : Addr} {vs : List Value} {ns : List Int} {fa : Addr} {cd : Value} {L : Addr} {s : Shared} {Q : Flow → Shared → Prop} {E : Value → Shared → Prop} {ρ : Str → Option Value} {wv : Value} {D : Addr} {us : List Value}
    (C : LawCtx w mean mg mb h₀ sl vs ns)
    (F : Fr h₀ L s.heap (kstB ρ [(Str.ofString "script", Value.ref sl), (Str.ofString "word", wv), (Str.ofString "figures", .ref D)])) (N : News h₀ L s.heap [(D, listOf us.toArray 0)])
    (hnext : ∀ (ρ : Str → Option Value) t h' tk', Fr h₀ L h' (kstB ρ [(Str.ofString "script", Value.ref sl), (Str.ofString "word", wv), (Str.ofString "figures", .ref D), (Str.ofString "tail", .int (ns.sum.fmod 9) t)]) → News h₀ L h' [(D, listOf us.toArray 0)] → Q .next { s with heap := h', toks := tk' }) :
    wpAny (lawM w) (lawA L fa cd) (exec (lawSt 2) (lawEnv L fa cd)) Q E s := by
  obtain ⟨B, X, T, hL, hI, hlay, hlen⟩ := C
  show wpAny (model PySem.Challenge.rw_pg0021_01.row.prog w) (callerA.deeper (envOf _ ⟨_, _, _, _, _⟩ _ _ _)) (exec (Stmt.Assign _ _ _) (envOf _ ⟨_, _, _, _, _⟩ _ _ _)) _ _ _
  revert X; k_fill; intro X
  w_strict (
    k_steps
    rename Fr h₀ L _ (fun y => if y = Str.ofString "tail" then _ else _) => F8
    exact hnext _ _ _ _ (frB F8 ⟨rfl, rfl, rfl, rfl, trivial⟩) (by assumption))
set_option maxRecDepth 100000 in
set_option maxHeartbeats 2000000 in
theorem st3 {w : World} {mean : ExcName → Option Value} {mg mb : Str → Option Value} {h₀ : Heap} {sl : Addr} {vs : List Value} {ns : List Int} {fa : Addr} {cd : Value} {L : Addr} {s : Shared} {Q : Flow → Shared → Prop} {E : Value → Shared → Prop} {ρ : Str → Option Value} {wv tv : Value} {D : Addr} {us : List Value}
    (C : LawCtx w mean mg mb h₀ sl vs ns)
    (F : Fr h₀ L s.heap (kstB ρ [(Str.ofString "script", Value.ref sl), (Str.ofString "word", wv), (Str.ofString "figures", .ref D), (Str.ofString "tail", tv)])) (N : News h₀ L s.heap [(D, listOf us.toArray 0)])
    (hnext : ∀ (ρ : Str → Option Value) t h' tk', Fr h₀ L h' (kstB ρ [(Str.ofString "script", Value.ref sl), (Str.ofString "word", wv), (Str.ofString "figures", .ref D), (Str.ofString "tail", tv), (Str.ofString "number", .int 0 t)]) → News h₀ L h' [(D, listOf us.toArray 0)] → Q .next { s with heap := h', toks := tk' }) :
    wpAny (lawM w) (lawA L fa cd) (exec (lawSt 3) (lawEnv L fa cd)) Q E s := by
  obtain ⟨B, X, T, hL, hI, hlay, hlen⟩ := C
  show wpAny (model PySem.Challenge.rw_pg0021_01.row.prog w) (callerA.deeper (envOf _ ⟨_, _, _, _, _⟩ _ _ _)) (exec (Stmt.Assign _ _ _) (envOf _ ⟨_, _, _, _, _⟩ _ _ _)) _ _ _
  revert X; k_fill; intro X
  w_strict (
    k_steps
    rename Fr h₀ L _ (fun y => if y = Str.ofString "number" then _ else _) => F8
    exact hnext _ _ _ _ (frB F8 ⟨rfl, rfl, rfl, rfl, rfl, trivial⟩) (by assumption))
/-- the number -/
def readOn (l : List Int) : Int := l.foldl (fun a d => 10 * a + d) 0
theorem readOn_snoc (l : List Int) (n : Int) : readOn (l ++ [n]) = 10 * readOn l + n := by simp [readOn]
end Mine
end
section
open PySem PySem.W PyProof.Rows
set_option linter.unusedVariables false
namespace Mine
open Mine.Head
theorem figs_bounds {ns : List Int} : ∀ d ∈ figs ns, 0 ≤ d ∧ d ≤ 9 := by
  intro d hd
  rcases List.mem_append.mp hd with h | h
  · simp only [List.mem_cons, List.not_mem_nil, or_false] at h
    omega
  · obtain ⟨a, _, rfl⟩ := List.mem_map.mp h
    have h1 := Int.fmod_nonneg_of_pos (a.fdiv 5) (b := 10) (by decide)
    have h2 := Int.fmod_lt_of_pos (a.fdiv 5) (b := 10) (by decide)
    omega
theorem figs_len {ns : List Int} : (figs ns).length = 13 + min 8 ns.length := by
  simp [figs]; omega
section
local macro_rules | `(tactic| walk_at "pyIter ref") => `(tactic| (k_here; refine stop_here ?_))
set_option maxRecDepth 100000 in
set_option maxHeartbeats 2000000 in
theorem st4 {w : World} {mean : ExcName → Option Value} {mg mb : Str → Option Value} {h₀ : Heap} {sl : Addr} {vs : List Value} {ns : List Int} {fa : Addr} {cd : Value} {L : Addr} {s : Shared} {Q : Flow → Shared → Prop} {ρ : Str → Option Value} {wv tv : Value} {D : Addr} {us : List Value} {t₀ : Tok}
    (C : LawCtx w mean mg mb h₀ sl vs ns) (hus : IntsAre us (figs ns))
    (F : Fr h₀ L s.heap (kstB ρ [(Str.ofString "script", Value.ref sl), (Str.ofString "word", wv), (Str.ofString "figures", .ref D), (Str.ofString "tail", tv), (Str.ofString "number", .int 0 t₀)])) (N : News h₀ L s.heap [(D, listOf us.toArray 0)])
    (hnext : ∀ (ρ : Str → Option Value) t h' tk', Fr h₀ L h' (kstB ρ [(Str.ofString "script", Value.ref sl), (Str.ofString "word", wv), (Str.ofString "tail", tv), (Str.ofString "number", .int (readOn (figs ns)) t)]) → Q .next { s with heap := h', toks := tk' }) :
    wpAny (lawM w) (lawA L fa cd) (exec (lawSt 4) (lawEnv L fa cd)) Q (fun _ _ => False) s := by
  obtain ⟨B, X, T, hL, hI, hlay, hlen⟩ := C
  show wpAny (model PySem.Challenge.rw_pg0021_01.row.prog w) (callerA.deeper (envOf _ ⟨_, _, _, _, _⟩ _ _ _)) (exec (Stmt.For _ _ _ _ _) (envOf _ ⟨_, _, _, _, _⟩ _ _ _)) _ _ _
  revert X; k_fill; intro X
  w_strict (
    refine For_invV h₀ (by rfl) (by rfl) ?_ (by intro _; rfl) PassesOwn.never
    k_steps
    unfold Stop
    refine kst_listL (σ := Int × Tok) (fun _ => [(D, listOf us.toArray 0)]) (fun c => [(Str.ofString "number", Value.int c.1 c.2)]) (fun _ => True) [] (fun pre c => c.1 = readOn pre ∧ 0 ≤ c.1 ∧ c.1 < ((10 ^ pre.length : Nat) : Int)) (0, t₀) rfl (fun _ => .head _) hus (by assumption) (by assumption) trivial (by intro p hp; rw [List.mem_singleton.mp hp]; rfl) ⟨rfl, Int.le_refl 0, (by show (0 : Int) < ((10 ^ 0 : Nat) : Int); decide)⟩ ?_ ?_
    · rintro ⟨c, tc⟩ pre post n t u h tk own hsplit hn hoff _ ⟨hc1, hc2, hc3⟩ F1 N1
      dsimp only at *
      have hb := figs_bounds n hn
      have hpl : pre.length ≤ 20 := by
        have h1 := congrArg List.length hsplit
        rw [figs_len, List.length_append, List.length_cons] at h1
        omega
      have hc4 : c < 100000000000000000000 := by
        have h2 : 10 ^ pre.length ≤ 10 ^ 20 := Nat.pow_le_pow_right (by decide) hpl
        omega
      k_steps
      rename Fr h₀ L _ (fun y => if y = Str.ofString "number" then _ else _) => F8
      rename News h₀ L _ ([_] ++ own) => N8
      refine kst_end (10 * c + n, _) F8 N8 (fun p hp => List.mem_append_left _ hp) (fun p hp => List.mem_append_right _ hp) rfl trivial (by intro p hp; rw [List.mem_singleton.mp hp]; rfl) ?_ ⟨?_, ?_, ?_⟩
      · intro z hz1 hz2 _
        have hz3 : z ≠ Str.ofString "number" := hz2 _ (.head _)
        simp only [if_neg hz3, if_neg hz1, kstB, List.contains_nil, Bool.false_eq_true, if_false]
      · show 10 * c + n = readOn (pre ++ [n]); rw [readOn_snoc, hc1]
      · show 0 ≤ 10 * c + n; omega
      · show 10 * c + n < ((10 ^ (pre ++ [n]).length : Nat) : Int)
        rw [List.length_append, List.length_singleton, Nat.pow_succ]
        omega
    · rintro ⟨c, tc⟩ u h tk _ ⟨hc1, _, _⟩ F1 N1
      dsimp only at hc1
      subst hc1
      exact hnext _ _ _ _ (frB F1 ⟨rfl, rfl, rfl, rfl, trivial⟩))
end
end Mine
end
section
open PySem PySem.W PyProof.Rows
set_option linter.unusedVariables false
namespace Mine
open Mine.Head
/-- the reply -/
def replyS (wd : Str) (nu tl : Int) : Str := Str.ofString "229 " ++ wd ++ Str.ofString "(" ++ Str.ofString (toString nu) ++ Str.ofString ".)" ++ Txt.mul (Str.ofString "b") tl
set_option maxRecDepth 100000 in
set_option maxHeartbeats 2000000 in
theorem st5 {w : World} {mean : ExcName → Option Value} {mg mb : Str → Option Value} {h₀ : Heap} {sl : Addr} {vs : List Value} {ns : List Int} {fa : Addr} {cd : Value} {L : Addr} {s : Shared} {Q : Flow → Shared → Prop} {E : Value → Shared → Prop} {ρ : Str → Option Value} {wd : Str} {tl nu : Int} {t1 t2 t3 : Tok}
    (C : LawCtx w mean mg mb h₀ sl vs ns) (hw : wd.length ≤ 5) (ht0 : 0 ≤ tl) (ht1 : tl ≤ 8) (hn0 : 0 ≤ nu) (hn1 : nu < 1000000000000000000000)
    (F : Fr h₀ L s.heap (kstB ρ [(Str.ofString "script", Value.ref sl), (Str.ofString "word", .str wd t1), (Str.ofString "tail", .int tl t2), (Str.ofString "number", .int nu t3)]))
    (hnext : ∀ (ρ : Str → Option Value) t h' tk', Fr h₀ L h' (kstB ρ [(Str.ofString "script", Value.ref sl), (Str.ofString "word", .str wd t1), (Str.ofString "tail", .int tl t2), (Str.ofString "number", .int nu t3), (Str.ofString "reply", .str (replyS wd nu tl) t)]) → Q .next { s with heap := h', toks := tk' }) :
    wpAny (lawM w) (lawA L fa cd) (exec (lawSt 5) (lawEnv L fa cd)) Q E s := by
  have N : News h₀ L s.heap [] := News.nil
  obtain ⟨B, X, T, hL, hI, hlay, hlen⟩ := C
  show wpAny (model PySem.Challenge.rw_pg0021_01.row.prog w) (callerA.deeper (envOf _ ⟨_, _, _, _, _⟩ _ _ _)) (exec (Stmt.Assign _ _ _) (envOf _ ⟨_, _, _, _, _⟩ _ _ _)) _ _ _
  revert X; k_fill; intro X
  w_strict (
    k_steps
    rename Fr h₀ L _ (fun y => if y = Str.ofString "reply" then _ else _) => F8
    exact hnext _ _ _ _ (frB F8 ⟨rfl, rfl, rfl, rfl, rfl, trivial⟩))
set_option maxRecDepth 100000 in
set_option maxHeartbeats 2000000 in
theorem st6 {w : World} {mean : ExcName → Option Value} {mg mb : Str → Option Value} {h₀ : Heap} {sl : Addr} {vs : List Value} {ns : List Int} {fa : Addr} {cd : Value} {L : Addr} {s : Shared} {Q : Flow → Shared → Prop} {E : Value → Shared → Prop} {ρ : Str → Option Value} {wv tv nv rv : Value}
    (C : LawCtx w mean mg mb h₀ sl vs ns)
    (F : Fr h₀ L s.heap (kstB ρ [(Str.ofString "script", Value.ref sl), (Str.ofString "word", wv), (Str.ofString "tail", tv), (Str.ofString "number", nv), (Str.ofString "reply", rv)]))
    (hnext : ∀ (ρ : Str → Option Value) D ta tb tc td h' tk', Fr h₀ L h' (kstB ρ [(Str.ofString "script", Value.ref sl), (Str.ofString "word", wv), (Str.ofString "tail", tv), (Str.ofString "number", nv), (Str.ofString "reply", rv), (Str.ofString "shown", .ref D)]) → News h₀ L h' [(D, listOf [Value.str (Str.ofString "...") ta, Value.str (Str.ofString "...") tb, Value.str (Str.ofString "...") tc, Value.str (Str.ofString "...") td].toArray 0)] → Q .next { s with heap := h', toks := tk' }) :
    wpAny (lawM w) (lawA L fa cd) (exec (lawSt 6) (lawEnv L fa cd)) Q E s := by
  have N : News h₀ L s.heap [] := News.nil
  obtain ⟨B, X, T, hL, hI, hlay, hlen⟩ := C
  show wpAny (model PySem.Challenge.rw_pg0021_01.row.prog w) (callerA.deeper (envOf _ ⟨_, _, _, _, _⟩ _ _ _)) (exec (Stmt.Assign _ _ _) (envOf _ ⟨_, _, _, _, _⟩ _ _ _)) _ _ _
  revert X; k_fill; intro X
  w_strict (
    k_steps
    rename Fr h₀ L _ (fun y => if y = Str.ofString "shown" then _ else _) => F8
    rename News h₀ L _ (_ :: _ :: []) => N8
    exact hnext _ _ _ _ _ _ _ _ (frB F8 ⟨rfl, rfl, rfl, rfl, rfl, rfl, trivial⟩) (news_sub N8 (fun q hq => by rw [List.mem_singleton.mp hq]; exact .head _)))
set_option maxRecDepth 100000 in
set_option maxHeartbeats 2000000 in
theorem st7 {w : World} {mean : ExcName → Option Value} {mg mb : Str → Option Value} {h₀ : Heap} {sl : Addr} {vs : List Value} {ns : List Int} {fa : Addr} {cd : Value} {L : Addr} {s : Shared} {Q : Flow → Shared → Prop} {E : Value → Shared → Prop} {ρ : Str → Option Value} {wv tv nv rv : Value} {D : Addr} {o : Obj}
    (C : LawCtx w mean mg mb h₀ sl vs ns)
    (F : Fr h₀ L s.heap (kstB ρ [(Str.ofString "script", Value.ref sl), (Str.ofString "word", wv), (Str.ofString "tail", tv), (Str.ofString "number", nv), (Str.ofString "reply", rv), (Str.ofString "shown", .ref D)])) (N : News h₀ L s.heap [(D, o)])
    (hnext : ∀ (ρ : Str → Option Value) t h' tk', Fr h₀ L h' (kstB ρ [(Str.ofString "script", Value.ref sl), (Str.ofString "word", wv), (Str.ofString "tail", tv), (Str.ofString "number", nv), (Str.ofString "reply", rv), (Str.ofString "shown", .ref D), (Str.ofString "front", .str (Str.ofString "") t)]) → News h₀ L h' [(D, o)] → Q .next { s with heap := h', toks := tk' }) :
    wpAny (lawM w) (lawA L fa cd) (exec (lawSt 7) (lawEnv L fa cd)) Q E s := by
  obtain ⟨B, X, T, hL, hI, hlay, hlen⟩ := C
  show wpAny (model PySem.Challenge.rw_pg0021_01.row.prog w) (callerA.deeper (envOf _ ⟨_, _, _, _, _⟩ _ _ _)) (exec (Stmt.Assign _ _ _) (envOf _ ⟨_, _, _, _, _⟩ _ _ _)) _ _ _
  revert X; k_fill; intro X
  w_strict (
    k_steps
    rename Fr h₀ L _ (fun y => if y = Str.ofString "front" then _ else _) => F8
    exact hnext _ _ _ _ (frB F8 ⟨rfl, rfl, rfl, rfl, rfl, rfl, rfl, trivial⟩) (by assumption))
set_option maxRecDepth 100000 in
set_option maxHeartbeats 2000000 in
theorem st8 {w : World} {mean : ExcName → Option Value} {mg mb : Str → Option Value} {h₀ : Heap} {sl : Addr} {vs : List Value} {ns : List Int} {fa : Addr} {cd : Value} {L : Addr} {s : Shared} {Q : Flow → Shared → Prop} {E : Value → Shared → Prop} {ρ : Str → Option Value} {wv tv nv rv fv : Value} {D : Addr} {o : Obj}
    (C : LawCtx w mean mg mb h₀ sl vs ns)
    (F : Fr h₀ L s.heap (kstB ρ [(Str.ofString "script", Value.ref sl), (Str.ofString "word", wv), (Str.ofString "tail", tv), (Str.ofString "number", nv), (Str.ofString "reply", rv), (Str.ofString "shown", .ref D), (Str.ofString "front", fv)])) (N : News h₀ L s.heap [(D, o)])
    (hnext : ∀ (ρ : Str → Option Value) t h' tk', Fr h₀ L h' (kstB ρ [(Str.ofString "script", Value.ref sl), (Str.ofString "word", wv), (Str.ofString "tail", tv), (Str.ofString "number", nv), (Str.ofString "reply", rv), (Str.ofString "shown", .ref D), (Str.ofString "front", fv), (Str.ofString "behind", .str (Str.ofString "") t)]) → News h₀ L h' [(D, o)] → Q .next { s with heap := h', toks := tk' }) :
    wpAny (lawM w) (lawA L fa cd) (exec (lawSt 8) (lawEnv L fa cd)) Q E s := by
  obtain ⟨B, X, T, hL, hI, hlay, hlen⟩ := C
  show wpAny (model PySem.Challenge.rw_pg0021_01.row.prog w) (callerA.deeper (envOf _ ⟨_, _, _, _, _⟩ _ _ _)) (exec (Stmt.Assign _ _ _) (envOf _ ⟨_, _, _, _, _⟩ _ _ _)) _ _ _
  revert X; k_fill; intro X
  w_strict (
    k_steps
    rename Fr h₀ L _ (fun y => if y = Str.ofString "behind" then _ else _) => F8
    exact hnext _ _ _ _ (frB F8 ⟨rfl, rfl, rfl, rfl, rfl, rfl, rfl, rfl, trivial⟩) (by assumption))
end Mine
end
section
open PySem PySem.W PyProof.Rows
set_option linter.unusedVariables false
namespace Mine
/-- the first n signs, the last n signs -/
def preS (r : Str) (n : Nat) : Str := ⟨(r.cps.toList.take n).toArray⟩
def sufS (r : Str) (n : Nat) : Str := ⟨(r.cps.toList.drop (r.length - n)).toArray⟩
/-- what is shown at width i -/
def cutS (r : Str) (i : Nat) : Str := preS r ((i - 3) / 2) ++ Str.ofString "..." ++ sufS r (i - 3 - (i - 3) / 2)

theorem str_ext {x y : Str} (h : x.cps.toList = y.cps.toList) : x = y := by
  obtain ⟨⟨a⟩⟩ := x
  obtain ⟨⟨b⟩⟩ := y
  cases h
  rfl
theorem str_append (x y : Str) : (x ++ y).cps.toList = x.cps.toList ++ y.cps.toList := by
  show (x.cps ++ y.cps).toList = _
  simp
theorem str_len (x : Str) : x.length = x.cps.toList.length := by
  show x.cps.size = _
  simp
theorem preS_list (r : Str) (n : Nat) : (preS r n).cps.toList = r.cps.toList.take n := by simp [preS]
theorem sufS_list (r : Str) (n : Nat) : (sufS r n).cps.toList = r.cps.toList.drop (r.length - n) := by simp [sufS]
theorem preS_len (r : Str) (n : Nat) (h : n ≤ r.length) : (preS r n).length = n := by
  rw [str_len, preS_list, List.length_take, ← str_len]; omega
theorem sufS_len (r : Str) (n : Nat) (h : n ≤ r.length) : (sufS r n).length = n := by
  rw [str_len, sufS_list, List.length_drop, ← str_len]; omega
theorem item_list (r : Str) (i : Nat) (h : i < r.length) : (Txt.item r (i : Int)).cps.toList = [r.cps.toList[i]'(by rw [← str_len]; exact h)] := by
  have hi : seqIndex? (i : Int) r.length = some i := by
    unfold seqIndex?
    first
      | (simp; omega)
      | (split <;> simp <;> omega)
  show (#[(Txt.charAt r (i : Int)).getD 0] : Array Nat).toList = _
  unfold Txt.charAt
  rw [hi]
  obtain ⟨⟨l⟩⟩ := r
  have h' : i < l.length := h
  simp [h']
theorem preS_succ (r : Str) (n : Nat) (h : n < r.length) : preS r n ++ Txt.item r (n : Int) = preS r (n + 1) := by
  refine str_ext ?_
  rw [str_append, preS_list, preS_list, item_list r n h, List.take_succ_eq_append_getElem]
theorem sufS_succ (r : Str) (n : Nat) (h : n < r.length) : Txt.item r ((r.length : Int) - 1 - (n : Int)) ++ sufS r n = sufS r (n + 1) := by
  have e : ((r.length : Int) - 1 - (n : Int)) = ((r.length - (n + 1) : Nat) : Int) := by omega
  rw [e]
  refine str_ext ?_
  rw [str_append, sufS_list, sufS_list, item_list r _ (by omega)]
  have e2 : r.length - n = r.length - (n + 1) + 1 := by omega
  rw [e2]
  exact (List.drop_eq_getElem_cons _).symm
theorem preS_zero (r : Str) : preS r 0 = Str.ofString "" := by
  refine str_ext ?_
  rw [preS_list]; rfl
theorem sufS_zero (r : Str) : sufS r 0 = Str.ofString "" := by
  refine str_ext ?_
  rw [sufS_list]
  have : r.cps.toList.drop (r.length - 0) = [] := List.drop_eq_nil_of_le (by rw [← str_len]; omega)
  rw [this]; rfl
theorem cutS_small (r : Str) (i : Nat) (h : i ≤ 3) : cutS r i = Str.ofString "..." := by
  have e : i - 3 = 0 := by omega
  unfold cutS
  rw [e, show (0 : Nat) / 2 = 0 from rfl, show (0 : Nat) - 0 = 0 from rfl, preS_zero, sufS_zero]
  rfl
theorem cutS_step (r : Str) (k : Nat) : cutS r (4 + k) = preS r ((k + 1) / 2) ++ Str.ofString "..." ++ sufS r ((k + 2) / 2) := by
  unfold cutS
  have e1 : 4 + k - 3 = k + 1 := by omega
  have e2 : k + 1 - (k + 1) / 2 = (k + 2) / 2 := by omega
  rw [e1, e2]
theorem four_shown (r : Str) : List.replicate 4 (Str.ofString "...") = (List.range 4).map (cutS r) := by
  have : List.range 4 = [0, 1, 2, 3] := by decide
  rw [this]
  simp only [List.map_cons, List.map_nil, cutS_small r 0 (by omega), cutS_small r 1 (by omega), cutS_small r 2 (by omega), cutS_small r 3 (by omega)]
  rfl
theorem shown_snoc (r : Str) (k : Nat) : (List.range (4 + (k + 1))).map (cutS r) = (List.range (4 + k)).map (cutS r) ++ [cutS r (4 + k)] := by
  rw [show 4 + (k + 1) = (4 + k) + 1 from by omega, List.range_succ, List.map_append]
  rfl
end Mine
end
section
open PySem PySem.W PyProof.Rows
set_option linter.unusedVariables false
namespace Mine
open Mine.Head
/-- what the second loop changes -/
theorem fmod_two (k : Int) (n : Nat) (h : k = 0 + (n : Int)) : (k.fmod 2 = 0 → n % 2 = 0) ∧ (¬ k.fmod 2 = 0 → n % 2 = 1) := by
  rw [Int.fmod_eq_emod_of_nonneg k (by decide)]
  omega
/-- one turn more: the sign from the end -/
theorem sh_even {r f b : Str} {ys : List Str} {n : Nat} (hn : n < r.length - 4) (hp : n % 2 = 0) (hf : f = preS r (n / 2)) (hb : b = sufS r ((n + 1) / 2)) (hy : ys = (List.range (4 + n)).map (cutS r)) :
    f = preS r ((n + 1) / 2) ∧ Txt.item r ((r.length : Int) - 1 - (b.length : Int)) ++ b = sufS r ((n + 1 + 1) / 2) ∧ ys ++ [f ++ Str.ofString "..." ++ (Txt.item r ((r.length : Int) - 1 - (b.length : Int)) ++ b)] = (List.range (4 + (n + 1))).map (cutS r) := by
  have hbl : b.length = (n + 1) / 2 := by rw [hb]; exact sufS_len r _ (by omega)
  have e1 : f = preS r ((n + 1) / 2) := by rw [hf]; congr 1; omega
  have e2 : Txt.item r ((r.length : Int) - 1 - (b.length : Int)) ++ b = sufS r ((n + 1 + 1) / 2) := by
    rw [hbl, hb, sufS_succ r _ (by omega)]; congr 1; omega
  refine ⟨e1, e2, ?_⟩
  rw [e2, shown_snoc, cutS_step, hy, e1]
/-- one turn more: the sign from the beginning -/
theorem sh_odd {r f b : Str} {ys : List Str} {n : Nat} (hn : n < r.length - 4) (hp : n % 2 = 1) (hf : f = preS r (n / 2)) (hb : b = sufS r ((n + 1) / 2)) (hy : ys = (List.range (4 + n)).map (cutS r)) :
    f ++ Txt.item r (f.length : Int) = preS r ((n + 1) / 2) ∧ b = sufS r ((n + 1 + 1) / 2) ∧ ys ++ [f ++ Txt.item r (f.length : Int) ++ Str.ofString "..." ++ b] = (List.range (4 + (n + 1))).map (cutS r) := by
  have hfl : f.length = n / 2 := by rw [hf]; exact preS_len r _ (by omega)
  have e1 : f ++ Txt.item r (f.length : Int) = preS r ((n + 1) / 2) := by
    rw [hfl, hf, preS_succ r _ (by omega)]; congr 1; omega
  have e2 : b = sufS r ((n + 1 + 1) / 2) := by rw [hb]; congr 1; omega
  refine ⟨e1, e2, ?_⟩
  rw [e1, shown_snoc, cutS_step, hy, e2]
structure ShSt where
  f : Str
  tf : Tok
  b : Str
  tb : Tok
  us : List Value
  ys : List Str
  cap : Nat
section
local macro_rules | `(tactic| walk_at "subscriptTail") => `(tactic| (k_here; (with_reducible show wpAny _ _ (subscriptTail _ _ (Value.str _ _) (Value.int _ _)) _ _ _); (refine item_str (fitsSsize_of (N := 9223372036854775808) (by omega) (by omega) (Int.le_refl _)) (by omega) (by omega) ?_); intro _))
local macro_rules | `(tactic| walk_at "pyIter ref") => `(tactic| (k_here; refine stop_here ?_))
set_option maxRecDepth 100000 in
set_option maxHeartbeats 4000000 in
theorem st9 {w : World} {mean : ExcName → Option Value} {mg mb : Str → Option Value} {h₀ : Heap} {sl : Addr} {vs : List Value} {ns : List Int} {fa : Addr} {cd : Value} {L : Addr} {s : Shared} {Q : Flow → Shared → Prop} {ρ : Str → Option Value} {wv tv nv : Value} {r : Str} {D : Addr} {tr t1 t2 t3 t4 t5 t6 : Tok}
    (C : LawCtx w mean mg mb h₀ sl vs ns) (hr4 : 4 ≤ r.length) (hr6 : r.length ≤ 600)
    (F : Fr h₀ L s.heap (kstB ρ [(Str.ofString "script", Value.ref sl), (Str.ofString "word", wv), (Str.ofString "tail", tv), (Str.ofString "number", nv), (Str.ofString "reply", .str r tr), (Str.ofString "shown", .ref D), (Str.ofString "front", .str (Str.ofString "") t5), (Str.ofString "behind", .str (Str.ofString "") t6)]))
    (N : News h₀ L s.heap [(D, listOf [Value.str (Str.ofString "...") t1, Value.str (Str.ofString "...") t2, Value.str (Str.ofString "...") t3, Value.str (Str.ofString "...") t4].toArray 0)])
    (hnext : ∀ (ρ : Str → Option Value) us n h' tk', StrsAre us ((List.range r.length).map (cutS r)) → Fr h₀ L h' (kstB ρ [(Str.ofString "script", Value.ref sl), (Str.ofString "word", wv), (Str.ofString "tail", tv), (Str.ofString "number", nv), (Str.ofString "reply", .str r tr), (Str.ofString "shown", .ref D)]) → News h₀ L h' [(D, listOf us.toArray n)] → Q .next { s with heap := h', toks := tk' }) :
    wpAny (lawM w) (lawA L fa cd) (exec (lawSt 9) (lawEnv L fa cd)) Q (fun _ _ => False) s := by
  obtain ⟨B, X, T, hL, hI, hlay, hlen⟩ := C
  show wpAny (model PySem.Challenge.rw_pg0021_01.row.prog w) (callerA.deeper (envOf _ ⟨_, _, _, _, _⟩ _ _ _)) (exec (Stmt.For _ _ _ _ _) (envOf _ ⟨_, _, _, _, _⟩ _ _ _)) _ _ _
  revert X; k_fill; intro X
  w_strict (
    refine For_invV h₀ (by rfl) (by rfl) ?_ (by intro _; rfl) PassesOwn.never
    k_steps
    unfold Stop
    refine kst_range (n := r.length - 4) (σ := ShSt) (fun c => [(D, listOf c.us.toArray c.cap)]) (fun c => [(Str.ofString "front", Value.str c.f c.tf), (Str.ofString "behind", Value.str c.b c.tb)]) (fun c => StrsAre c.us c.ys) []
      (fun pre c => c.f = preS r (pre.length / 2) ∧ c.b = sufS r ((pre.length + 1) / 2) ∧ c.ys = (List.range (4 + pre.length)).map (cutS r))
      ⟨Str.ofString "", t5, Str.ofString "", t6, [Value.str (Str.ofString "...") t1, Value.str (Str.ofString "...") t2, Value.str (Str.ofString "...") t3, Value.str (Str.ofString "...") t4], List.replicate 4 (Str.ofString "..."), 0⟩
      rfl (by assumption) (small_one (by omega) (by omega) (by omega) (by omega)) (by rw [rangeSize_nat]; omega) (by assumption) (by assumption) (.cons _ _ (.cons _ _ (.cons _ _ (.cons _ _ .nil)))) (by intro p hp; simp only [List.mem_cons, List.not_mem_nil, or_false] at hp; rcases hp with rfl | rfl <;> rfl) ⟨(preS_zero r).symm, (sufS_zero r).symm, four_shown r⟩ ?_ ?_
    · rintro ⟨f, tf, b, tb, us, ys, cap⟩ pre k t u h tk own hk hpre hoff hf ⟨hc1, hc2, hc3⟩ F1 N1
      dsimp only at *
      have hfl : f.length = pre.length / 2 := by rw [hc1]; exact preS_len r _ (by omega)
      have hbl : b.length = (pre.length + 1) / 2 := by rw [hc2]; exact sufS_len r _ (by omega)
      have hul : us.length = 4 + pre.length := by rw [hf.length, hc3]; simp
      k_steps
      · rename Int.fmod k 2 = 0 => hpar
        rename Fr h₀ L _ (fun y => if y = Str.ofString "behind" then _ else _) => F8
        rename News h₀ L _ ((D, _) :: _) => N8
        rw [List.push_toArray] at N8
        refine' kst_end ⟨f, tf, Txt.item r (↑r.length - 1 - ↑b.length) ++ b, _, us ++ [_], ys ++ [f ++ Str.ofString "..." ++ (Txt.item r (↑r.length - 1 - ↑b.length) ++ b)], cap + 1⟩ F8 N8 ?g1 ?g2 ?g3 ?g4 ?g5 ?g6 ?g7
        case g5 =>
          intro p hp
          simp only [List.mem_cons, List.not_mem_nil, or_false] at hp
          rcases hp with rfl | rfl <;> rfl
        case g1 => exact fun p hp => by rw [List.mem_singleton.mp hp]; exact .head _
        case g2 => exact fun p hp => .tail _ hp
        case g3 => rfl
        case g4 => exact hf.append' (.cons _ _ .nil)
        case g6 =>
          intro z hz1 hz2 _
          have hz3 : z ≠ Str.ofString "front" := hz2 _ (.head _)
          have hz4 : z ≠ Str.ofString "behind" := hz2 _ (.tail _ (.head _))
          simp only [if_neg hz4, if_neg hz3, if_neg hz1, kstB, List.contains_nil, Bool.false_eq_true, if_false]
        case g7 =>
          rw [List.length_append, List.length_singleton]
          exact sh_even hpre ((fmod_two k _ hk).1 hpar) hc1 hc2 hc3
      · rename ¬ Int.fmod k 2 = 0 => hpar
        rename Fr h₀ L _ (fun y => if y = Str.ofString "front" then _ else _) => F8
        rename News h₀ L _ ((D, _) :: _) => N8
        rw [List.push_toArray] at N8
        refine' kst_end ⟨f ++ Txt.item r ↑f.length, _, b, tb, us ++ [_], ys ++ [f ++ Txt.item r ↑f.length ++ Str.ofString "..." ++ b], cap + 1⟩ F8 N8 ?g1 ?g2 ?g3 ?g4 ?g5 ?g6 ?g7
        case g5 =>
          intro p hp
          simp only [List.mem_cons, List.not_mem_nil, or_false] at hp
          rcases hp with rfl | rfl <;> rfl
        case g1 => exact fun p hp => by rw [List.mem_singleton.mp hp]; exact .head _
        case g2 => exact fun p hp => .tail _ hp
        case g3 => rfl
        case g4 => exact hf.append' (.cons _ _ .nil)
        case g6 =>
          intro z hz1 hz2 _
          have hz3 : z ≠ Str.ofString "front" := hz2 _ (.head _)
          have hz4 : z ≠ Str.ofString "behind" := hz2 _ (.tail _ (.head _))
          simp only [if_neg hz4, if_neg hz3, if_neg hz1, kstB, List.contains_nil, Bool.false_eq_true, if_false]
        case g7 =>
          rw [List.length_append, List.length_singleton]
          exact sh_odd hpre ((fmod_two k _ hk).2 hpar) hc1 hc2 hc3
    · rintro ⟨f, tf, b, tb, us, ys, cap⟩ u h tk hf ⟨hc1, hc2, hc3⟩ F1 N1
      dsimp only at *
      subst hc3
      refine hnext _ us cap _ _ ?_ (frB F1 ⟨rfl, rfl, rfl, rfl, rfl, rfl, trivial⟩) N1
      have e : 4 + (rangeKs 0 (r.length - 4)).length = r.length := by rw [rangeKs_length]; omega
      rw [e] at hf
      exact hf)
end
end Mine
end
section
open PySem PySem.W PyProof.Rows
set_option linter.unusedVariables false
namespace Mine
abbrev cl (x : Str) : List Nat := x.cps.toList
theorem slice_to (x : Str) (j : Nat) (h : j ≤ x.length) : cl (Txt.slice x none (some (j : Int))) = (cl x).take j := by
  have e := eq_of_beq (slice_closes_toL (x := x) (j := (j : Int)) (by omega) (by omega))
  rw [e]
  show ((x.cps.toList.drop 0).take ((j : Int) - 0).toNat).toArray.toList = _
  simp
theorem slice_mid (x : Str) (i j : Nat) (h1 : i ≤ j) (h2 : j ≤ x.length) : cl (Txt.slice x (some (i : Int)) (some (j : Int))) = ((cl x).drop i).take (j - i) := by
  have e := eq_of_beq (slice_closesL (x := x) (i := (i : Int)) (j := (j : Int)) (by omega) (by omega) (by omega))
  rw [e]
  have e2 : ((j : Int) - (i : Int)).toNat = j - i := by omega
  rw [e2, Int.toNat_natCast]
theorem fromIx {n i : Nat} (h : i ≤ n) : fromIndex n (i : Int) = i := by
  have := fromIndex_in (n := n) (i := (i : Int)) (by omega) (by omega)
  omega
theorem find3_at {x : Str} {c : Nat} {P C E : List Nat} (h : cl x = P ++ (C ++ c :: E)) (hC : c ∉ C) : Txt.find3 x ⟨#[c]⟩ (P.length : Int) = ((P.length + C.length : Nat) : Int) := by
  have hl : x.length = P.length + (C.length + (E.length + 1)) := by
    rw [str_len, show x.cps.toList = _ from h]; simp
  have hat : (cl x)[P.length + C.length]? = some c := by
    rw [h, List.getElem?_append_right (by omega), Nat.add_sub_cancel_left, List.getElem?_append_right (by omega), Nat.sub_self]; rfl
  have hoff : ∀ v, P.length ≤ v → v < P.length + C.length → (cl x)[v]? ≠ some c := by
    intro v h1 h2 e
    rw [h, List.getElem?_append_right h1, List.getElem?_append_left (by omega)] at e
    exact hC (List.mem_of_getElem? e)
  rcases StrLaws.find3_spec x c (P.length : Int) with ⟨_, hn⟩ | ⟨k, e, h1, h2, hg, hmin⟩
  · rw [fromIx (by omega)] at hn
    exact absurd (StrLaws.getD_of_getElem? hat) (hn _ (by omega) (by omega))
  · rw [fromIx (by omega)] at h1 hmin
    rw [e]
    have : k = P.length + C.length := by
      rcases Nat.lt_trichotomy k (P.length + C.length) with hlt | he | hgt
      · exact absurd (StrLaws.getElem?_of_getD h2 hg) (hoff k h1 hlt)
      · exact he
      · exact absurd (StrLaws.getD_of_getElem? hat) (hmin _ (by omega) hgt)
    rw [this]
theorem find3_off {x : Str} {c : Nat} {P B : List Nat} (h : cl x = P ++ B) (hB : c ∉ B) : Txt.find3 x ⟨#[c]⟩ (P.length : Int) < 0 := by
  have hl : x.length = P.length + B.length := by
    rw [str_len, show x.cps.toList = _ from h]; simp
  rcases StrLaws.find3_spec x c (P.length : Int) with ⟨e, _⟩ | ⟨k, e, h1, h2, hg, _⟩
  · rw [e]; decide
  · rw [fromIx (by omega)] at h1
    have := StrLaws.getElem?_of_getD h2 hg
    rw [show x.cps.toList = _ from h, List.getElem?_append_right h1] at this
    exact absurd (List.mem_of_getElem? this) hB
theorem lf_is {x : Str} {A B : List Nat} (h : cl x = A ++ 40 :: B) (hA : 40 ∉ A) : lf x = (A.length : Int) := by
  unfold lf
  rw [find_is_find3, paren_open]
  have := find3_at (x := x) (c := 40) (P := []) (C := A) (E := B) h hA
  rw [show ((([] : List Nat).length : Nat) : Int) = 0 from rfl] at this
  rw [this]; simp
theorem lf_off {x : Str} (h : 40 ∉ cl x) : lf x < 0 := by
  unfold lf
  rw [find_is_find3, paren_open]
  exact find3_off (x := x) (c := 40) (P := []) (B := cl x) rfl h
theorem rt_is {x : Str} {A C E : List Nat} (h : cl x = A ++ 40 :: (C ++ 41 :: E)) (hA : 40 ∉ A) (hC : 41 ∉ C) : rt x = ((A.length + 1 + C.length : Nat) : Int) := by
  unfold rt
  rw [lf_is h hA, paren_close]
  have := find3_at (x := x) (c := 41) (P := A ++ [40]) (C := C) (E := E) (by rw [h]; simp) hC
  have e1 : (A ++ [40]).length = A.length + 1 := by simp
  rw [e1] at this
  exact this
theorem rt_off {x : Str} {A B : List Nat} (h : cl x = A ++ 40 :: B) (hA : 40 ∉ A) (hB : 41 ∉ B) : rt x < 0 := by
  unfold rt
  rw [lf_is h hA, paren_close]
  have := find3_off (x := x) (c := 41) (P := A ++ [40]) (B := B) (by rw [h]; simp) hB
  have e1 : (A ++ [40]).length = A.length + 1 := by simp
  rw [e1] at this
  exact this
theorem item_is {x : Str} {P E : List Nat} {c : Nat} {i : Int} (h : cl x = P ++ c :: E) (hi : i = (P.length : Int)) : Txt.item x i = ⟨#[c]⟩ := by
  subst hi
  have hl : P.length < x.length := by
    rw [str_len, show x.cps.toList = _ from h]; simp
  refine str_ext ?_
  rw [item_list x P.length hl]
  have : x.cps.toList[P.length]? = some c := by
    rw [show x.cps.toList = _ from h, List.getElem?_append_right (Nat.le_refl _), Nat.sub_self]; rfl
  rw [List.getElem?_eq_getElem (by rw [← str_len]; exact hl)] at this
  rw [Option.some.inj this]
theorem cut_uniq {c : Nat} : ∀ {a a' b b' : List Nat}, c ∉ a → c ∉ a' → a ++ c :: b = a' ++ c :: b' → a = a' ∧ b = b'
  | [], [], _, _, _, _, h => ⟨rfl, by simpa using h⟩
  | [], d :: a', _, _, _, h2, h => by
    simp only [List.nil_append, List.cons_append, List.cons.injEq] at h
    exact absurd (h.1 ▸ .head _) h2
  | d :: a, [], _, _, h1, _, h => by
    simp only [List.nil_append, List.cons_append, List.cons.injEq] at h
    exact absurd (h.1 ▸ .head _) h1
  | d :: a, d' :: a', b, b', h1, h2, h => by
    simp only [List.cons_append, List.cons.injEq] at h
    obtain ⟨e1, e2⟩ := cut_uniq (fun q => h1 (.tail _ q)) (fun q => h2 (.tail _ q)) h.2
    exact ⟨by rw [h.1, e1], e2⟩
theorem join_list (c : Nat) (p q : Str) (r : List Str) : cl (Str.join ⟨#[c]⟩ (p :: q :: r)) = cl p ++ c :: cl (Str.join ⟨#[c]⟩ (q :: r)) := by
  show cl (p ++ ⟨#[c]⟩ ++ Str.join ⟨#[c]⟩ (q :: r)) = _
  show (p ++ ⟨#[c]⟩ ++ Str.join ⟨#[c]⟩ (q :: r)).cps.toList = _
  rw [str_append, str_append]
  simp
theorem join_uniq (c : Nat) : ∀ (ps qs : List Str), ps ≠ [] → qs ≠ [] → (∀ p ∈ ps, c ∉ cl p) → (∀ p ∈ qs, c ∉ cl p) → cl (Str.join ⟨#[c]⟩ ps) = cl (Str.join ⟨#[c]⟩ qs) → ps = qs
  | [], _, h, _, _, _, _ => absurd rfl h
  | _, [], _, h, _, _, _ => absurd rfl h
  | [p], [q], _, _, _, _, h => by rw [str_ext (x := p) (y := q) h]
  | [p], q :: q' :: r, _, _, h1, h2, h => by
    rw [join_list] at h
    have : c ∈ cl p := by
      rw [show cl p = _ from h]; simp
    exact absurd this (h1 p (.head _))
  | p :: p' :: r, [q], _, _, h1, h2, h => by
    rw [join_list] at h
    have : c ∈ cl q := by
      rw [show cl q = _ from h.symm]; simp
    exact absurd this (h2 q (.head _))
  | p :: p' :: r, q :: q' :: r', _, _, h1, h2, h => by
    rw [join_list, join_list] at h
    obtain ⟨e1, e2⟩ := cut_uniq (h1 p (.head _)) (h2 q (.head _)) h
    rw [str_ext e1, join_uniq c (p' :: r) (q' :: r') (by simp) (by simp) (fun s hs => h1 s (.tail _ hs)) (fun s hs => h2 s (.tail _ hs)) e2]
theorem split_is {x : Str} {c : Nat} {ps : List Str} (hne : ps ≠ []) (hp : ∀ p ∈ ps, c ∉ cl p) (hj : cl (Str.join ⟨#[c]⟩ ps) = cl x) : Txt.split x ⟨#[c]⟩ = ps := by
  refine join_uniq c _ _ ?_ hne (StrLaws.split_free x c) hp ?_
  · intro e
    have := split_pos x ⟨#[c]⟩
    rw [e] at this
    exact absurd this (by decide)
  · rw [StrLaws.join_split, hj]
end Mine
end
section
open PySem PySem.W PyProof.Rows
set_option linter.unusedVariables false
namespace Mine
open PySem.NumText
def Tells (x : Str) (T : Told) : Prop := readable x ∧ toldT x = T
theorem s229 : cl (Str.ofString "229") = [50, 50, 57] := by decide +kernel
section
variable {x : Str}
theorem head_yes (h3 : 3 ≤ x.length) (h : (cl x).take 3 = [50, 50, 57]) : (Txt.slice x none (some 3) != Str.ofString "229") = false := by
  have e : Txt.slice x none (some 3) = Str.ofString "229" := by
    refine str_ext ?_
    show cl (Txt.slice x none (some ((3 : Nat) : Int))) = cl (Str.ofString "229")
    rw [slice_to x 3 h3, h, s229]
  rw [e]; simp
theorem head_no (h3 : 3 ≤ x.length) (h : (cl x).take 3 ≠ [50, 50, 57]) : (Txt.slice x none (some 3) != Str.ofString "229") = true := by
  rw [bne_iff_ne]
  intro e
  apply h
  rw [← slice_to x 3 h3, ← s229]
  show cl (Txt.slice x none (some 3)) = _
  rw [e]
theorem tells_reply (h3 : 3 ≤ x.length) (h : (cl x).take 3 ≠ [50, 50, 57]) : Tells x .reply := by
  have e := head_no h3 h
  refine ⟨fun e1 => (by rw [e] at e1; cases e1), ?_⟩
  unfold toldT
  rw [if_pos e]
theorem tells_noopen (h3 : 3 ≤ x.length) (h : (cl x).take 3 = [50, 50, 57]) (h4 : 40 ∉ cl x) : Tells x .proto := by
  have e := head_yes h3 h
  have hl := lf_off h4
  refine ⟨fun _ hn => absurd hl hn, ?_⟩
  unfold toldT
  rw [if_neg (by rw [e]; exact Bool.false_ne_true), if_pos hl]
theorem tells_noclose {A B : List Nat} (h3 : 3 ≤ x.length) (h : (cl x).take 3 = [50, 50, 57]) (hx : cl x = A ++ 40 :: B) (hA : 40 ∉ A) (hB : 41 ∉ B) : Tells x .proto := by
  have e := head_yes h3 h
  have hl := lf_is hx hA
  have hr := rt_off hx hA hB
  refine ⟨fun _ _ hn => absurd hr hn, ?_⟩
  unfold toldT
  rw [if_neg (by rw [e]; exact Bool.false_ne_true), if_neg (by rw [hl]; omega), if_pos hr]
theorem bne_one {c d : Nat} (h : c ≠ d) : ((⟨#[c]⟩ : Str) != ⟨#[d]⟩) = true := by
  rw [bne_iff_ne]
  intro e
  injection e with e
  injection e with e
  injection e with e
  exact h e
theorem tells_differ {A C E : List Nat} {c d : Nat} (h3 : 3 ≤ x.length) (h : (cl x).take 3 = [50, 50, 57]) (hx : cl x = A ++ 40 :: ((c :: (C ++ [d])) ++ 41 :: E)) (hA : 40 ∉ A) (hC : 41 ∉ c :: (C ++ [d])) (hne : c ≠ d) : Tells x .proto := by
  have e := head_yes h3 h
  have hl := lf_is hx hA
  have hr := rt_is hx hA hC
  have i1 : Txt.item x (lf x + 1) = ⟨#[c]⟩ := by
    refine item_is (P := A ++ [40]) (E := C ++ [d] ++ 41 :: E) (by rw [hx]; simp) ?_
    rw [hl, List.length_append]; rfl
  have i2 : Txt.item x (rt x - 1) = ⟨#[d]⟩ := by
    refine item_is (P := A ++ 40 :: c :: C) (E := 41 :: E) (by rw [hx]; simp) ?_
    rw [hr]
    simp only [List.length_append, List.length_cons, List.length_nil]
    omega
  have hd : (Txt.item x (lf x + 1) != Txt.item x (rt x - 1)) = true := by rw [i1, i2]; exact bne_one hne
  refine ⟨fun _ _ _ hn => (by rw [hd] at hn; cases hn), ?_⟩
  unfold toldT
  rw [if_neg (by rw [e]; exact Bool.false_ne_true), if_neg (by rw [hl]; omega), if_neg (by rw [hr]; omega), if_pos hd]
theorem prts_is {A C E : List Nat} {c : Nat} {ps : List Str} (hx : cl x = A ++ 40 :: ((c :: C) ++ 41 :: E)) (hA : 40 ∉ A) (hC : 41 ∉ c :: C) (hne : ps ≠ []) (hp : ∀ p ∈ ps, c ∉ cl p) (hj : cl (Str.join ⟨#[c]⟩ ps) = c :: C) : prts x = ps := by
  have hl := lf_is hx hA
  have hr := rt_is hx hA hC
  have i1 : Txt.item x (lf x + 1) = ⟨#[c]⟩ := by
    refine item_is (P := A ++ [40]) (E := C ++ 41 :: E) (by rw [hx]; simp) ?_
    rw [hl, List.length_append]; rfl
  have hlen : x.length = A.length + (1 + ((c :: C).length + (1 + E.length))) := by
    rw [str_len, show x.cps.toList = _ from hx]; simp; omega
  have hs : cl (Txt.slice x (some (lf x + 1)) (some (rt x))) = c :: C := by
    rw [hl, hr]
    show cl (Txt.slice x (some ((A.length + 1 : Nat) : Int)) (some ((A.length + 1 + (c :: C).length : Nat) : Int))) = _
    rw [slice_mid x _ _ (by omega) (by omega), hx]
    have : (A ++ 40 :: ((c :: C) ++ 41 :: E)) = (A ++ [40]) ++ ((c :: C) ++ 41 :: E) := by simp
    rw [this, List.drop_left' (by simp), Nat.add_sub_cancel_left, List.take_left]
  unfold prts
  rw [i1]
  exact split_is hne hp (hj.trans hs.symm)
theorem parts_head {A C E : List Nat} (hx : cl x = A ++ 40 :: ((46 :: (C ++ [46])) ++ 41 :: E)) (hA : 40 ∉ A) (hC : 41 ∉ 46 :: (C ++ [46])) :
    (Txt.item x (lf x + 1) != Txt.item x (rt x - 1)) = false := by
  have hl := lf_is hx hA
  have hr := rt_is hx hA hC
  have i1 : Txt.item x (lf x + 1) = ⟨#[46]⟩ := by
    refine item_is (P := A ++ [40]) (E := C ++ [46] ++ 41 :: E) (by rw [hx]; simp) ?_
    rw [hl, List.length_append]; rfl
  have i2 : Txt.item x (rt x - 1) = ⟨#[46]⟩ := by
    refine item_is (P := A ++ 40 :: 46 :: C) (E := 41 :: E) (by rw [hx]; simp) ?_
    rw [hr]
    simp only [List.length_append, List.length_cons, List.length_nil]
    omega
  rw [i1, i2]; simp
theorem empty_list : cl Str.empty = [] := rfl
theorem tells_bare {A E : List Nat} (h3 : 3 ≤ x.length) (h : (cl x).take 3 = [50, 50, 57]) (hx : cl x = A ++ 40 :: ([46, 46, 46] ++ 41 :: E)) (hA : 40 ∉ A) : Tells x .proto := by
  have e := head_yes h3 h
  have hl := lf_is hx hA
  have hr := rt_is hx hA (by decide)
  have hh := parts_head (C := [46]) hx hA (by decide)
  have hp : prts x = [Str.empty, Str.empty, Str.empty, Str.empty] := prts_is (C := [46, 46]) hx hA (by decide) (by simp) (by
    intro p hp
    have : p = Str.empty := by simpa using hp
    rw [this, empty_list]; decide) rfl
  refine ⟨fun _ _ _ _ hn => (by rw [hp] at hn; exact absurd hn (by decide)), ?_⟩
  unfold toldT
  rw [if_neg (by rw [e]; exact Bool.false_ne_true), if_neg (by rw [hl]; omega), if_neg (by rw [hr]; omega), if_neg (by rw [hh]; exact Bool.false_ne_true), if_neg (by rw [hp]; decide)]
theorem tells_parts {A Z E : List Nat} (h3 : 3 ≤ x.length) (h : (cl x).take 3 = [50, 50, 57]) (hx : cl x = A ++ 40 :: ((46 :: ([46, 46] ++ Z ++ [46])) ++ 41 :: E)) (hA : 40 ∉ A) (hZ : AllDigits Z) (hlZ : Z.length ≤ 640) :
    Tells x (if Z = [] then .value else .port ((digitsVal Z : Nat) : Int)) := by
  have e := head_yes h3 h
  have hl := lf_is hx hA
  have h41 : 41 ∉ 46 :: ([46, 46] ++ Z ++ [46]) := by
    intro q
    have q2 : 41 ∈ Z := by simpa using q
    have := hZ 41 q2
    omega
  have h46 : 46 ∉ Z := fun q => by have := hZ 46 q; omega
  have hr := rt_is hx hA h41
  have hh := parts_head hx hA h41
  have hp : prts x = [Str.empty, Str.empty, Str.empty, ⟨Z.toArray⟩, Str.empty] := prts_is hx hA h41 (by simp) (by
    intro p hp
    simp only [List.mem_cons, List.not_mem_nil, or_false] at hp
    have h0 : 46 ∉ cl Str.empty := by rw [empty_list]; decide
    rcases hp with rfl | rfl | rfl | rfl | rfl
    · exact h0
    · exact h0
    · exact h0
    · exact h46
    · exact h0) (by
      rw [join_list, join_list, join_list, join_list]
      show cl Str.empty ++ 46 :: (cl Str.empty ++ 46 :: (cl Str.empty ++ 46 :: (Z ++ 46 :: cl Str.empty))) = _
      rw [empty_list]; simp)
  have hz3 : (prts x)[3]? = some ⟨Z.toArray⟩ := by rw [hp]; rfl
  have h5 : ((prts x).length : Int) = 5 := by rw [hp]; rfl
  have ht : toldT x = match PySem.intText? ⟨Z.toArray⟩ with | none => .value | some n => .port n := by
    unfold toldT
    rw [if_neg (by rw [e]; exact Bool.false_ne_true), if_neg (by rw [hl]; omega), if_neg (by rw [hr]; omega), if_neg (by rw [hh]; exact Bool.false_ne_true), if_pos h5, hz3]
    all_goals rfl
  by_cases hZ0 : Z = []
  · subst hZ0
    refine ⟨fun _ _ _ _ _ z hz => ?_, ?_⟩
    · rw [hz3] at hz
      exact .inl (Option.some.inj hz).symm
    · rw [ht, if_pos rfl]
      show (match PySem.intText? Str.empty with | none => Told.value | some n => .port n) = _
      rw [intText_nil]
  · have hi : PySem.intText? ⟨Z.toArray⟩ = some ((digitsVal Z : Nat) : Int) := by
      have := intText_digits (x := ⟨Z.toArray⟩) hZ hZ0 (by show Z.toArray.size ≤ 4300; rw [List.size_toArray]; omega)
      exact this
    refine ⟨fun _ _ _ _ _ z hz => ?_, ?_⟩
    · rw [hz3] at hz
      exact .inr ⟨_, (Option.some.inj hz) ▸ hi⟩
    · rw [ht, hi, if_neg hZ0]
end
end Mine
end
section
open PySem PySem.W PyProof.Rows
set_option linter.unusedVariables false
namespace Mine
open Mine.Head
def turnBody : List Stmt := match lawSt 10 with
  | .For _ _ body _ _ => body
  | _ => []
def turnIter : Expr := match lawSt 10 with
  | .For _ it _ _ _ => it
  | _ => .Constant .none 0 ⟨0, 0, 0, 0⟩
def turnSt (k : Nat) : Stmt := (turnBody.drop k).headD (.Pass ⟨0, 0, 0, 0⟩)
theorem turnBody_is : turnBody = [turnSt 0, turnSt 1, turnSt 2, turnSt 3, turnSt 4] := rfl
/-- what is due at width i -/
def dueS (r : Str) (i : Int) : Str := if (r.length : Int) ≤ i then r else cutS r i.toNat
theorem due_item {r : Str} {us : List Value} (hr : 1 ≤ r.length) (hus : StrsAre us ((List.range r.length).map (cutS r))) {i : Int} (h : ¬ (r.length : Int) ≤ i) : ∃ t, us[(if 0 > i then 0 else i).toNat]? = some (.str (dueS r i) t) := by
  have e : (if 0 > i then 0 else i).toNat = i.toNat := by split <;> omega
  rw [e]
  refine hus.at ?_
  have hlt : i.toNat < r.length := by omega
  unfold dueS
  rw [if_neg h, List.getElem?_map, List.getElem?_range hlt]
  rfl
theorem slice_back (r : Str) (k : Nat) (h : k ≤ r.length) : Txt.slice r (some ((r.length : Int) - (k : Int))) none = sufS r k := by
  rw [slice_from_eq (x := r) (b := (r.length : Int)) (by omega) (by omega) rfl]
  have e1 : ((r.length : Int) - (k : Int)).toNat = r.length - k := by omega
  have e2 : ((r.length : Int) - ((r.length : Int) - (k : Int))).toNat = k := by omega
  rw [e1, e2]
  refine str_ext ?_
  rw [sufS_list]
  show ((r.cps.toList.drop (r.length - k)).take k).toArray.toList = _
  rw [show ∀ l : List Nat, l.toArray.toList = l from fun _ => rfl]
  exact List.take_of_length_le (by rw [List.length_drop, ← str_len]; omega)
theorem slice_front (r : Str) (k : Nat) (h : k ≤ r.length) : Txt.slice r none (some (k : Int)) = preS r k := by
  refine str_ext ?_
  rw [preS_list]
  exact slice_to r k h
theorem cram_is {r : Str} {i : Int} (h : i < (r.length : Int)) :
    Txt.slice r none (some (if (i - 3).fdiv 2 > 0 then (i - 3).fdiv 2 else 0)) ++ Str.ofString "..." ++
      Txt.slice r (some ((r.length : Int) - if (i - 3 - if (i - 3).fdiv 2 > 0 then (i - 3).fdiv 2 else 0) > 0 then i - 3 - if (i - 3).fdiv 2 > 0 then (i - 3).fdiv 2 else 0 else 0)) none = dueS r i := by
  have ef : (i - 3).fdiv 2 = (i - 3) / 2 := Int.fdiv_eq_ediv_of_nonneg _ (by decide)
  have e1 : (if (i - 3).fdiv 2 > 0 then (i - 3).fdiv 2 else 0) = (((i.toNat - 3) / 2 : Nat) : Int) := by rw [ef]; split <;> omega
  rw [e1]
  have e2 : (if (i - 3 - (((i.toNat - 3) / 2 : Nat) : Int)) > 0 then i - 3 - (((i.toNat - 3) / 2 : Nat) : Int) else 0) = ((i.toNat - 3 - (i.toNat - 3) / 2 : Nat) : Int) := by split <;> omega
  rw [e2, slice_back r _ (by omega), slice_front r _ (by omega)]
  unfold dueS
  rw [if_neg (by omega)]
  rfl
section
local macro_rules | `(tactic| walk_at "subscriptTail") => `(tactic| (k_here; (with_reducible show wpAny _ _ (subscriptTail _ _ (Value.ref _) (Value.int _ _)) _ _ _); refine stop_here ?_))
set_option maxRecDepth 100000 in
set_option maxHeartbeats 4000000 in
theorem tb0 {w : World} {mean : ExcName → Option Value} {mg mb : Str → Option Value} {h₀ : Heap} {sl : Addr} {vs : List Value} {ns : List Int} {fa : Addr} {cd : Value} {L : Addr} {s : Shared} {Q : Flow → Shared → Prop} {E : Value → Shared → Prop} {ρ : Str → Option Value} {wv tv nv : Value} {r : Str} {D : Addr} {i : Int} {ti tr : Tok} {us : List Value} {n : Nat} {nw : List (Addr × Obj)}
    (C : LawCtx w mean mg mb h₀ sl vs ns) (hr4 : 4 ≤ r.length) (hr6 : r.length ≤ 600) (hus : StrsAre us ((List.range r.length).map (cutS r)))
    (F : Fr h₀ L s.heap (kstB ρ [(Str.ofString "width", .int i ti), (Str.ofString "script", Value.ref sl), (Str.ofString "word", wv), (Str.ofString "tail", tv), (Str.ofString "number", nv), (Str.ofString "reply", .str r tr), (Str.ofString "shown", .ref D)]))
    (N : News h₀ L s.heap ((D, listOf us.toArray n) :: nw))
    (hnext : ∀ (ρ : Str → Option Value) t h' tk', Fr h₀ L h' (kstB ρ [(Str.ofString "width", .int i ti), (Str.ofString "script", Value.ref sl), (Str.ofString "word", wv), (Str.ofString "tail", tv), (Str.ofString "number", nv), (Str.ofString "reply", .str r tr), (Str.ofString "shown", .ref D), (Str.ofString "due", .str (dueS r i) t)]) → News h₀ L h' ((D, listOf us.toArray n) :: nw) → Q .next { s with heap := h', toks := tk' }) :
    wpAny (lawM w) (lawA L fa cd) (exec (turnSt 0) (lawEnv L fa cd)) Q E s := by
  obtain ⟨B, X, T, hL, hI, hlay, hlen⟩ := C
  show wpAny (model PySem.Challenge.rw_pg0021_01.row.prog w) (callerA.deeper (envOf _ ⟨_, _, _, _, _⟩ _ _ _)) (exec (Stmt.If _ _ _ _) (envOf _ ⟨_, _, _, _, _⟩ _ _ _)) _ _ _
  revert X; k_fill; intro X
  have hul : us.length = r.length := by rw [hus.length]; simp
  w_strict (
    k_steps
    · rename Fr h₀ L _ (fun y => if y = Str.ofString "due" then _ else _) => F8
      rename ((r.length : Nat) : Int) ≤ i => hle
      have e : dueS r i = r := if_pos hle
      rw [e] at hnext
      exact hnext _ _ _ _ (frB F8 ⟨rfl, rfl, rfl, rfl, rfl, rfl, rfl, rfl, trivial⟩) (by assumption)
    · rename ¬ ((r.length : Nat) : Int) ≤ i => hlt
      rename Fr h₀ L _ _ => F7
      rename News h₀ L _ _ => N7
      unfold Stop
      obtain ⟨t9, ht9⟩ := due_item (by omega) hus hlt
      refine item_litK (News.isList N7 (.head _)) (by split <;> omega) (by split <;> omega) ht9 ?_
      k_steps
      rename Fr h₀ L _ (fun y => if y = Str.ofString "due" then _ else _) => F8
      exact hnext _ _ _ _ (frB F8 ⟨rfl, rfl, rfl, rfl, rfl, rfl, rfl, rfl, trivial⟩) (by assumption))
end
section
set_option maxRecDepth 100000 in
set_option maxHeartbeats 4000000 in
theorem tb1 {w : World} {mean : ExcName → Option Value} {mg mb : Str → Option Value} {h₀ : Heap} {sl : Addr} {vs : List Value} {ns : List Int} {fa : Addr} {cd : Value} {L : Addr} {s : Shared} {Q : Flow → Shared → Prop} {E : Value → Shared → Prop} {ρ : Str → Option Value} {wv tv nv : Value} {r : Str} {D : Addr} {i : Int} {ti tr td : Tok} {us : List Value} {n : Nat} {nw : List (Addr × Obj)}
    (C : LawCtx w mean mg mb h₀ sl vs ns) (hr6 : r.length ≤ 600)
    (F : Fr h₀ L s.heap (kstB ρ [(Str.ofString "width", .int i ti), (Str.ofString "script", Value.ref sl), (Str.ofString "word", wv), (Str.ofString "tail", tv), (Str.ofString "number", nv), (Str.ofString "reply", .str r tr), (Str.ofString "shown", .ref D), (Str.ofString "due", .str (dueS r i) td)]))
    (N : News h₀ L s.heap ((D, listOf us.toArray n) :: nw))
    (hnext : ∀ (ρ : Str → Option Value) h' tk', Fr h₀ L h' (kstB ρ [(Str.ofString "width", .int i ti), (Str.ofString "script", Value.ref sl), (Str.ofString "word", wv), (Str.ofString "tail", tv), (Str.ofString "number", nv), (Str.ofString "reply", .str r tr), (Str.ofString "shown", .ref D), (Str.ofString "due", .str (dueS r i) td)]) → News h₀ L h' ((D, listOf us.toArray n) :: nw) → Q .next { s with heap := h', toks := tk' }) :
    wpAny (lawM w) (lawA L fa cd) (exec (turnSt 1) (lawEnv L fa cd)) Q E s := by
  obtain ⟨B, X, T, hL, hI, hlay, hlen⟩ := C
  show wpAny (model PySem.Challenge.rw_pg0021_01.row.prog w) (callerA.deeper (envOf _ ⟨_, _, _, _, _⟩ _ _ _)) (exec (Stmt.If _ _ _ _) (envOf _ ⟨_, _, _, _, _⟩ _ _ _)) _ _ _
  revert X; k_fill; intro X
  w_strict (
    k_steps
    · rename (_ != _) = true => hne
      rename i < (r.length : Int) => hlt
      rw [cram_is hlt, bne_self_eq_false] at hne
      cases hne
    · exact hnext _ _ _ (by assumption) (by assumption)
    · rename (_ != _) = true => hne
      rename ¬ i < (r.length : Int) => hlt
      rw [show dueS r i = r from if_pos (by omega), bne_self_eq_false] at hne
      cases hne
    · exact hnext _ _ _ (by assumption) (by assumption))
end
end Mine
end
section
open PySem PySem.W PyProof.Rows
set_option linter.unusedVariables false
namespace Mine
open Mine.Head
set_option maxRecDepth 100000 in
set_option maxHeartbeats 4000000 in
theorem tb2 {w : World} {mean : ExcName → Option Value} {mg mb : Str → Option Value} {h₀ : Heap} {sl : Addr} {vs : List Value} {ns : List Int} {fa : Addr} {cd : Value} {L : Addr} {s : Shared} {Q : Flow → Shared → Prop} {E : Value → Shared → Prop} {ρ : Str → Option Value} {wd : Str} {nv rv dv : Value} {D : Addr} {i tl : Int} {ti tw tt : Tok} {us : List Value} {n : Nat} {nw : List (Addr × Obj)}
    (C : LawCtx w mean mg mb h₀ sl vs ns) (hw : wd.length ≤ 5) (ht0 : 0 ≤ tl) (ht1 : tl ≤ 8)
    (F : Fr h₀ L s.heap (kstB ρ [(Str.ofString "width", .int i ti), (Str.ofString "script", Value.ref sl), (Str.ofString "word", .str wd tw), (Str.ofString "tail", .int tl tt), (Str.ofString "number", nv), (Str.ofString "reply", rv), (Str.ofString "shown", .ref D), (Str.ofString "due", dv)]))
    (N : News h₀ L s.heap ((D, listOf us.toArray n) :: nw))
    (hnext : ∀ (ρ : Str → Option Value) t h' tk', Fr h₀ L h' (kstB ρ [(Str.ofString "width", .int i ti), (Str.ofString "script", Value.ref sl), (Str.ofString "word", .str wd tw), (Str.ofString "tail", .int tl tt), (Str.ofString "number", nv), (Str.ofString "reply", rv), (Str.ofString "shown", .ref D), (Str.ofString "due", dv), (Str.ofString "left", .int (i - 10 - (wd.length : Int) - tl) t)]) → News h₀ L h' ((D, listOf us.toArray n) :: nw) → Q .next { s with heap := h', toks := tk' }) :
    wpAny (lawM w) (lawA L fa cd) (exec (turnSt 2) (lawEnv L fa cd)) Q E s := by
  obtain ⟨B, X, T, hL, hI, hlay, hlen⟩ := C
  show wpAny (model PySem.Challenge.rw_pg0021_01.row.prog w) (callerA.deeper (envOf _ ⟨_, _, _, _, _⟩ _ _ _)) (exec (Stmt.Assign _ _ _) (envOf _ ⟨_, _, _, _, _⟩ _ _ _)) _ _ _
  revert X; k_fill; intro X
  w_strict (
    k_steps
    rename Fr h₀ L _ (fun y => if y = Str.ofString "left" then _ else _) => F8
    exact hnext _ _ _ _ (frB F8 ⟨rfl, rfl, rfl, rfl, rfl, rfl, rfl, rfl, rfl, trivial⟩) (by assumption))
theorem any_two {e : Int} (h : (([13, 14] : List Int).any fun x => x == e) = true) : e = 13 ∨ e = 14 := by
  simp only [List.any_cons, List.any_nil, Bool.or_false, Bool.or_eq_true, beq_iff_eq] at h
  omega
theorem any_none {e : Int} (h : (([13, 14] : List Int).any fun x => x == e) = false) : ¬ (e = 13 ∨ e = 14) := by
  simp only [List.any_cons, List.any_nil, Bool.or_false, Bool.or_eq_false_iff, beq_eq_false_iff_ne] at h
  omega
section
local macro_rules | `(tactic| walk_at "binaryOp Pow int int") => `(tactic| (k_here; (have hb9 := any_two (by assumption)); (refine pow_int_small (by omega) (by omega) (by decide) ?_); clear hb9))
set_option maxRecDepth 100000 in
set_option maxHeartbeats 4000000 in
theorem tb3 {w : World} {mean : ExcName → Option Value} {mg mb : Str → Option Value} {h₀ : Heap} {sl : Addr} {vs : List Value} {ns : List Int} {fa : Addr} {cd : Value} {L : Addr} {s : Shared} {Q : Flow → Shared → Prop} {E : Value → Shared → Prop} {ρ : Str → Option Value} {wd due : Str} {tv rv : Value} {D : Addr} {i nu lf : Int} {ti tw tn td tlf : Tok} {us : List Value} {n : Nat} {nw : List (Addr × Obj)}
    (C : LawCtx w mean mg mb h₀ sl vs ns) (hw : wd.length ≤ 5) (hn0 : 0 ≤ nu) (hn1 : nu < 1000000000000000000000) (hlf : lf ≤ i - 10 - (wd.length : Int))
    (h1 : i ≤ 8 → toldT due = .reply) (h2 : ¬ i ≤ 8 → (¬ (i - 2 * (wd.length : Int) = 13 ∨ i - 2 * (wd.length : Int) = 14) ∨ lf < 0) → toldT due = .proto)
    (h3 : (i - 2 * (wd.length : Int) = 13 ∨ i - 2 * (wd.length : Int) = 14) → lf = 0 → toldT due = .value)
    (h4 : (i - 2 * (wd.length : Int) = 13 ∨ i - 2 * (wd.length : Int) = 14) → 0 < lf → toldT due = .port (nu.fmod (10 ^ lf.toNat)))
    (F : Fr h₀ L s.heap (kstB ρ [(Str.ofString "width", .int i ti), (Str.ofString "script", Value.ref sl), (Str.ofString "word", .str wd tw), (Str.ofString "tail", tv), (Str.ofString "number", .int nu tn), (Str.ofString "reply", rv), (Str.ofString "shown", .ref D), (Str.ofString "due", .str due td), (Str.ofString "left", .int lf tlf)]))
    (N : News h₀ L s.heap ((D, listOf us.toArray n) :: nw))
    (hnext : ∀ (ρ : Str → Option Value) A v1 v2 nw' h' tk', IsTold due wd (toldT due) v1 v2 → (∀ p ∈ (D, listOf us.toArray n) :: nw, p ∈ nw') → Fr h₀ L h' (kstB ρ [(Str.ofString "script", Value.ref sl), (Str.ofString "word", .str wd tw), (Str.ofString "tail", tv), (Str.ofString "number", .int nu tn), (Str.ofString "reply", rv), (Str.ofString "shown", .ref D), (Str.ofString "due", .str due td), (Str.ofString "answer", .ref A)]) → News h₀ L h' ((A, { cls := .type "tuple", data := .seq #[v1, v2] 0 }) :: nw') → Q .next { s with heap := h', toks := tk' }) :
    wpAny (lawM w) (lawA L fa cd) (exec (turnSt 3) (lawEnv L fa cd)) Q E s := by
  obtain ⟨B, X, T, hL, hI, hlay, hlen⟩ := C
  show wpAny (model PySem.Challenge.rw_pg0021_01.row.prog w) (callerA.deeper (envOf _ ⟨_, _, _, _, _⟩ _ _ _)) (exec (Stmt.If _ _ _ _) (envOf _ ⟨_, _, _, _, _⟩ _ _ _)) _ _ _
  revert X; k_fill; intro X
  w_strict (
    k_steps
    all_goals rename Fr h₀ L _ (fun y => if y = Str.ofString "answer" then _ else _) => F8
    · refine hnext _ _ _ _ _ _ _ ?_ ?_ (frB F8 ⟨rfl, rfl, rfl, rfl, rfl, rfl, rfl, rfl, trivial⟩) (by assumption)
      · rw [h1 (by assumption)]; exact ⟨_, _, rfl, rfl⟩
      · exact fun p hp => hp
    · refine hnext _ _ _ _ _ _ _ ?_ ?_ (frB F8 ⟨rfl, rfl, rfl, rfl, rfl, rfl, rfl, rfl, trivial⟩) (by assumption)
      · rw [h2 (by assumption) (.inr (by assumption))]; exact ⟨_, _, rfl, rfl⟩
      · exact fun p hp => .tail _ hp
    · refine hnext _ _ _ _ _ _ _ ?_ ?_ (frB F8 ⟨rfl, rfl, rfl, rfl, rfl, rfl, rfl, rfl, trivial⟩) (by assumption)
      · rw [h3 (any_two (by assumption)) (by assumption)]; exact ⟨_, _, rfl, rfl⟩
      · exact fun p hp => .tail _ hp
    · refine hnext _ _ _ _ _ _ _ ?_ ?_ (frB F8 ⟨rfl, rfl, rfl, rfl, rfl, rfl, rfl, rfl, trivial⟩) (by assumption)
      · rw [h4 (any_two (by assumption)) (by omega)]; exact ⟨_, _, rfl, rfl⟩
      · exact fun p hp => .tail _ hp
    · refine hnext _ _ _ _ _ _ _ ?_ ?_ (frB F8 ⟨rfl, rfl, rfl, rfl, rfl, rfl, rfl, rfl, trivial⟩) (by assumption)
      · rw [h2 (by assumption) (.inl (any_none (by assumption)))]; exact ⟨_, _, rfl, rfl⟩
      · exact fun p hp => .tail _ hp)
end
end Mine
end
section
open PySem PySem.W PyProof.Rows
set_option linter.unusedVariables false
namespace Mine
open Mine.Head
abbrev tup2 (v1 v2 : Value) : Obj := { cls := .type "tuple", data := .seq #[v1, v2] 0 }
/-- one answer, made twice: equal -/
theorem ne_told {prog : Program} {w : World} {A₁ : Around} {E : Value → Shared → Prop} {s : Shared} {Q : Value → Shared → Prop} {h₀ : Heap} {L D A : Addr} {news : List (Addr × Obj)} {x y : Str} {R : Told} {u1 u2 v1 v2 : Value}
    (N : News h₀ L s.heap news) (h1 : (D, tup2 u1 u2) ∈ news) (h2 : (A, tup2 v1 v2) ∈ news) (a : IsTold x y R u1 u2) (b : IsTold x y R v1 v2) (hx : PyData.strOk x = true) (hy : PyData.strOk y = true)
    (hu : A₁.units + 64 < cLine) (h : Q (.bool false) s) : wpAny (model prog w) A₁ (compareOp .NotEq (.ref D) (.ref A)) Q E s := by
  have key : ∀ (d e : PyData) (as bs as' bs' : List Addr), Reads s.heap u1 d [] → Reads s.heap u2 e [] → Reads s.heap v1 d [] → Reads s.heap v2 e [] → d.canLay0 = true → e.canLay0 = true → d.depth = 0 → e.depth = 0 → PyData.eqv d d = true → PyData.eqv e e = true →
      wpAny (model prog w) A₁ (compareOp .NotEq (.ref D) (.ref A)) Q E s := by
    intro d e _ _ _ _ r1 r2 r3 r4 c1 c2 d1 d2 e1 e2
    have hs : SeqAt.shaped (.tuple [d, e]) = true := by
      simp [SeqAt.shaped, PyData.canLay0, PyData.canLayAll0, PyData.depth, PyData.depthAll, c1, c2, d1, d2]
    refine ne_dataH (reads_tuple_at (News.get N h1) rfl rfl (ReadsAll.cons r1 (ReadsAll.cons r2 ReadsAll.nil))) (reads_tuple_at (News.get N h2) rfl rfl (ReadsAll.cons r3 (ReadsAll.cons r4 ReadsAll.nil))) hs hs hu ?_
    simp only [PyData.eqv, PyData.eqvAll, e1, e2, Bool.and_true, Bool.not_true]
    exact h
  have es : ∀ z : Str, PyData.eqv (.str z) (.str z) = true := fun z => by simp [PyData.eqv]
  cases R with
  | reply =>
    obtain ⟨_, _, rfl, rfl⟩ := a
    obtain ⟨_, _, rfl, rfl⟩ := b
    exact key (.str _) (.str _) [] [] [] [] (Reads.str _ _) (Reads.str _ _) (Reads.str _ _) (Reads.str _ _) (by decide +kernel) hx rfl rfl (es _) (es _)
  | proto =>
    obtain ⟨_, _, rfl, rfl⟩ := a
    obtain ⟨_, _, rfl, rfl⟩ := b
    exact key (.str _) (.str _) [] [] [] [] (Reads.str _ _) (Reads.str _ _) (Reads.str _ _) (Reads.str _ _) (by decide +kernel) hx rfl rfl (es _) (es _)
  | value =>
    obtain ⟨_, _, rfl, rfl⟩ := a
    obtain ⟨_, _, rfl, rfl⟩ := b
    exact key (.str _) (.str _) [] [] [] [] (Reads.str _ _) (Reads.str _ _) (Reads.str _ _) (Reads.str _ _) (by decide +kernel) (by decide +kernel) rfl rfl (es _) (es _)
  | port z =>
    obtain ⟨_, _, rfl, rfl⟩ := a
    obtain ⟨_, _, rfl, rfl⟩ := b
    exact key (.str _) (.int _) [] [] [] [] (Reads.str _ _) (Reads.int _ _) (Reads.str _ _) (Reads.int _ _) hy rfl rfl rfl (es _) (by simp [PyData.eqv])
section
local macro_rules | `(tactic| walk_at "compareOp NotEq") => `(tactic| (k_here; (with_reducible show wpAny _ _ (compareOp CmpOp.NotEq _ _) _ _ _); refine stop_here ?_))
local macro_rules | `(tactic| walk_at "compareOp NotEq ref") => `(tactic| (k_here; (with_reducible show wpAny _ _ (compareOp CmpOp.NotEq _ _) _ _ _); refine stop_here ?_))
local macro_rules | `(tactic| walk_at "compareOp NotEq ref ref") => `(tactic| (k_here; (with_reducible show wpAny _ _ (compareOp CmpOp.NotEq _ _) _ _ _); refine stop_here ?_))
set_option maxRecDepth 100000 in
set_option maxHeartbeats 4000000 in
theorem tb4 {w : World} {mean : ExcName → Option Value} {mg mb : Str → Option Value} {h₀ : Heap} {sl : Addr} {vs : List Value} {ns : List Int} {fa : Addr} {cd : Value} {L : Addr} {s : Shared} {Q : Flow → Shared → Prop} {E : Value → Shared → Prop} {ρ : Str → Option Value} {wd due : Str} {tv nv rv v1 v2 : Value} {D A : Addr} {tw td : Tok} {nw : List (Addr × Obj)}
    (C : LawCtx w mean mg mb h₀ sl vs ns) (hd6 : due.length ≤ 600) (hok1 : PyData.strOk due = true) (hok2 : PyData.strOk wd = true) (hgood : readable due) (hans : IsTold due wd (toldT due) v1 v2)
    (F : Fr h₀ L s.heap (kstB ρ [(Str.ofString "script", Value.ref sl), (Str.ofString "word", .str wd tw), (Str.ofString "tail", tv), (Str.ofString "number", nv), (Str.ofString "reply", rv), (Str.ofString "shown", .ref D), (Str.ofString "due", .str due td), (Str.ofString "answer", .ref A)]))
    (N : News h₀ L s.heap ((A, { cls := .type "tuple", data := .seq #[v1, v2] 0 }) :: nw))
    (hnext : ∀ (ρ : Str → Option Value) h' tk', Fr h₀ L h' (kstB ρ [(Str.ofString "script", Value.ref sl), (Str.ofString "word", .str wd tw), (Str.ofString "tail", tv), (Str.ofString "number", nv), (Str.ofString "reply", rv), (Str.ofString "shown", .ref D)]) → News h₀ L h' nw → Q .next { s with heap := h', toks := tk' }) :
    wpCl (lawM w) (lawA L fa cd) (exec (turnSt 4) (lawEnv L fa cd)) Q E s := by
  obtain ⟨B, X, T, hL, hI, hlay, hlen⟩ := C
  show wpCl (model PySem.Challenge.rw_pg0021_01.row.prog w) (callerA.deeper (envOf _ ⟨_, _, _, _, _⟩ _ _ _)) (exec (Stmt.If _ _ _ _) (envOf _ ⟨_, _, _, _, _⟩ _ _ _)) _ _ _
  revert X; k_fill; intro X
  w_strict (
    refine wpCl_If ?_
    refine wpCl_isTrue_Compare1 ?_
    refine wpCl_Call ?_
    k_steps
    refine callWithCl_K (K := hd.heap_39 w.params) (by k_is) ?_
    k_steps
    refine told_cl w mean mg mb _ due _ _ _ _ _ hd6 _ _ _ _ _ h₀ L _ _ _ _ B (by assumption) X (by assumption) T hgood ?_
    intro D2 u1 u2 h2 tk2 F2 N2 hI2
    (try dsimp only)
    clear hgood
    generalize toldT due = R at hans hI2
    have hne : ∀ (E : Value → Shared → Prop) (Q : Value → Shared → Prop) (tk : Nat), Q (.bool false) _ → _ := fun E Q tk hq => ne_told (s := { s with heap := h2, toks := tk }) (A₁ := callerA.deeper (lawEnv L fa cd)) (prog := PySem.Challenge.rw_pg0021_01.row.prog) (w := w) (E := E) (Q := Q) N2 (.head _) (.tail _ (.tail _ (.head _))) hI2 hans hok1 hok2 (by ke_room) hq
    clear hI2 hans
    k_steps
    unfold Stop
    (try dsimp only)
    refine hne _ _ _ ?_
    k_steps
    rename News h₀ L _ _ => N9
    rename Fr h₀ L _ _ => F9
    exact hnext _ _ _ (frB F9 ⟨rfl, rfl, rfl, rfl, rfl, rfl, trivial⟩) (news_sub N9 (fun q hq => .tail _ (.tail _ (.tail _ hq)))))
end
end Mine
end
section
open PySem PySem.W PyProof.Rows
set_option linter.unusedVariables false
namespace Mine
open PySem.Calls PySem.Spec
open Sem (wp)
section
variable {prog : Program} {w : World} {A : Around} {R : Result → Shared → Prop} {s : Shared} {env : Env} {h₀ : Heap}
/-- a for over a list of ints that the call has made, on the path: the turn may change its own locals only -/
theorem codeCl_forInts {x : Str} {px : Pos} {body : List Stmt} {I G : Addr} {vs : List Value} {ks : List Int} {n : Nat} {led : List (Addr × Obj)} {ps : List (Str × Value)} {ρ : Str → Option Value}
    (hh : A.handled = none) (hx : env.kindOf x = some .local) (hp : (env.scope.kind == .class || (env.scope.kind == .module && env.locals != env.globals)) = false)
    (hi : IntsAre vs ks) (F : Fr h₀ env.locals s.heap (kstB ρ ps)) (N : News h₀ env.locals s.heap led) (hG : (G, listOf vs.toArray n) ∈ led)
    (hst : s.heap.IsListIter I G 0) (hIL : I ≠ env.locals) (hIn : h₀.get? I = none) (hIled : ∀ p ∈ led, p.1 ≠ I)
    (turn : ∀ k t ρ h tk oI, Fr h₀ env.locals h (kstB ρ ((x, .int k t) :: ps)) → News h₀ env.locals h (led ++ [(I, oI)]) →
      wpCl (model prog w) A (execs body env) (fun f s' => f = .next ∧ ∃ ρ' h' tk', s' = { s with heap := h', toks := tk' } ∧ Fr h₀ env.locals h' (kstB ρ' ps) ∧ News h₀ env.locals h' (led ++ [(I, oI)])) (fun _ _ => False) { s with heap := h, toks := tk })
    (done : ∀ ρ h tk, Fr h₀ env.locals h (kstB ρ ps) → News h₀ env.locals h led → R (.ok .next) { s with heap := h, toks := tk }) :
    codeCl (model prog w) A (.forLoop (.Name x px) (.ref I) body [] env) R s := by
  have hGI : G ≠ I := hIled _ hG
  have W := Walks.list (prog := prog) (w := w) hh I G hGI vs.toArray
  have hsz : vs.toArray.size = ks.length := by simp [hi.length]
  rw [hsz] at W
  have old : ∀ b o, h₀.get? b = some o → b ∉ [I] := fun b o e hb => by rw [List.mem_singleton.mp hb, hIn] at e; cases e
  have lst : ∀ {h : Heap}, News h₀ env.locals h led → h.IsList G vs.toArray := fun {h} Nh => ⟨_, (Nh _ hG).1, rfl, n, rfl⟩
  have nx : ∀ {h h₁ : Heap} {m : Str → Option Value}, Fr h₀ env.locals h m → News h₀ env.locals h led → (∀ b o, b ∉ [I] → h.get? b = some o → h₁.get? b = some o) → Fr h₀ env.locals h₁ m ∧ News h₀ env.locals h₁ led := fun {h h₁ m} Fh Nh hk =>
    ⟨⟨Fh.ns.at' fun o e => hk _ o (fun q => hIL (List.mem_singleton.mp q).symm) e, fun b o e => hk b o (old b o e) (Fh.keep b o e), Fh.above⟩,
      fun p hp' => ⟨hk _ _ (fun q => hIled p hp' (List.mem_singleton.mp q)) (Nh p hp').1, (Nh p hp').2⟩⟩
  refine codeCl_forLoop (fun k s' => ∃ h' tk ρ' i, s' = { s with heap := h', toks := tk } ∧ h'.IsListIter I G i ∧ Fr h₀ env.locals h' (kstB ρ' ps) ∧ News h₀ env.locals h' led ∧ i ≤ ks.length ∧ k = ks.length + 1 - i) ?_ (ks.length + 1)
    ⟨s.heap, s.toks, ρ, 0, rfl, hst, F, N, Nat.zero_le _, rfl⟩
  rintro k s' ⟨h', tk, ρ', i, rfl, hst', F', N', hile, rfl⟩
  by_cases hlt : i < ks.length
  · refine W.item i _ _ _ hlt ⟨hst', lst N'⟩ fun v h₁ tk₁ hP hst₁ hk₁ => ?_
    obtain ⟨F₁, N₁⟩ := nx F' N' hk₁
    obtain ⟨t, hxv⟩ := hi.get i ks[i] (by simp [hlt])
    have hv : v = .int ks[i] t := by
      have hP' : vs[i]? = some v := by simpa using hP
      rw [hxv] at hP'; exact (Option.some.inj hP').symm
    subst hv
    refine wpAny_assign_Name (wpAny_storeName_local hx F₁.ns (fun h₂ hn₂ hs₂ => ?_) hp)
    have F₂ := F₁.set hn₂ hs₂
    have N₂ := N₁.set hs₂
    have st₂ : h₂.IsListIter I G (i + 1) := hst₁.1.at fun o e => (hs₂.2 I hIL).trans e
    obtain ⟨oI, hoI, rI⟩ := id st₂
    refine wpCl_mono (turn ks[i] t ρ' h₂ (tk₁ + 1) oI F₂ ?_) ?_ (fun _ _ e => e)
    · intro p hp'
      rcases List.mem_append.mp hp' with q | q
      · exact N₂ p q
      · rw [List.mem_singleton.mp q]; exact ⟨hoI, hIL, hIn⟩
    · rintro f s₃ ⟨rfl, ρ₃, h₃, tk₃, rfl, F₃, N₃⟩
      refine ⟨ks.length + 1 - (i + 1), by omega, h₃, tk₃, ρ₃, i + 1, rfl, ?_, F₃, (fun p hp' => N₃ p (List.mem_append_left _ hp')), hlt, rfl⟩
      exact ⟨oI, (N₃ (I, oI) (List.mem_append_right _ (.head _))).1, rI⟩
  · have hin : i = ks.length := by omega
    subst hin
    refine W.done _ _ _ ⟨hst', lst N'⟩ fun h₁ tk₁ hk₁ => ?_
    obtain ⟨F₁, N₁⟩ := nx F' N' hk₁
    exact done ρ' h₁ tk₁ F₁ N₁
end
end Mine
end
section
open PySem PySem.W PyProof.Rows
set_option linter.unusedVariables false
namespace Mine
open Mine.Head
set_option maxRecDepth 100000 in
set_option maxHeartbeats 4000000 in
theorem it10 {w : World} {mean : ExcName → Option Value} {mg mb : Str → Option Value} {h₀ : Heap} {sl : Addr} {vs : List Value} {ns : List Int} {fa : Addr} {cd : Value} {L : Addr} {s : Shared} {Q : Value → Shared → Prop} {E : Value → Shared → Prop} {ρ : Str → Option Value} {wv tv nv : Value} {r : Str} {D : Addr} {tr : Tok} {us : List Value} {n : Nat}
    (C : LawCtx w mean mg mb h₀ sl vs ns) (hr6 : r.length ≤ 600)
    (F : Fr h₀ L s.heap (kstB ρ [(Str.ofString "script", Value.ref sl), (Str.ofString "word", wv), (Str.ofString "tail", tv), (Str.ofString "number", nv), (Str.ofString "reply", .str r tr), (Str.ofString "shown", .ref D)]))
    (N : News h₀ L s.heap [(D, listOf us.toArray n)])
    (hnext : ∀ (ρ : Str → Option Value) G us' ks n' h' tk', IntsAre us' ks → Fr h₀ L h' (kstB ρ [(Str.ofString "script", Value.ref sl), (Str.ofString "word", wv), (Str.ofString "tail", tv), (Str.ofString "number", nv), (Str.ofString "reply", .str r tr), (Str.ofString "shown", .ref D)]) → News h₀ L h' [(D, listOf us.toArray n), (G, listOf us'.toArray n')] → Q (.ref G) { s with heap := h', toks := tk' }) :
    wpAny (lawM w) (lawA L fa cd) (eval turnIter (lawEnv L fa cd)) Q E s := by
  obtain ⟨B, X, T, hL, hI, hlay, hlen⟩ := C
  show wpAny (model PySem.Challenge.rw_pg0021_01.row.prog w) (callerA.deeper (envOf _ ⟨_, _, _, _, _⟩ _ _ _)) (eval (Expr.BinOp _ _ _ _) (envOf _ ⟨_, _, _, _, _⟩ _ _ _)) _ _ _
  revert X; k_fill; intro X
  w_strict (
    k_steps
    rename IntsAre _ (rangeKs (-2) _ ++ _) => hI9
    exact hnext _ _ _ _ _ _ _ hI9 (by assumption) (news_sub (by assumption) (by
      intro q hq
      simp only [List.mem_cons, List.not_mem_nil, or_false] at hq
      rcases hq with rfl | rfl
      · exact .tail _ (.tail _ (.tail _ (.head _)))
      · exact .head _)))
/-- what the plain law says of what is shown at each width -/
structure DueLaw (wd : Str) (nu tl : Int) (r : Str) (i : Int) : Prop where
  len : (dueS r i).length ≤ 600
  ok : PyData.strOk (dueS r i) = true
  good : readable (dueS r i)
  h1 : i ≤ 8 → toldT (dueS r i) = .reply
  h2 : ¬ i ≤ 8 → (¬ (i - 2 * (wd.length : Int) = 13 ∨ i - 2 * (wd.length : Int) = 14) ∨ i - 10 - (wd.length : Int) - tl < 0) → toldT (dueS r i) = .proto
  h3 : (i - 2 * (wd.length : Int) = 13 ∨ i - 2 * (wd.length : Int) = 14) → i - 10 - (wd.length : Int) - tl = 0 → toldT (dueS r i) = .value
  h4 : (i - 2 * (wd.length : Int) = 13 ∨ i - 2 * (wd.length : Int) = 14) → 0 < i - 10 - (wd.length : Int) - tl → toldT (dueS r i) = .port (nu.fmod (10 ^ (i - 10 - (wd.length : Int) - tl).toNat))
theorem lawSt10_is : ∃ px pos, lawSt 10 = .For (.Name (Str.ofString "width") px) turnIter turnBody [] pos := ⟨_, _, rfl⟩
theorem st10 {w : World} {mean : ExcName → Option Value} {mg mb : Str → Option Value} {h₀ : Heap} {sl : Addr} {vs : List Value} {ns : List Int} {fa : Addr} {cd : Value} {L : Addr} {s : Shared} {Q : Flow → Shared → Prop} {ρ : Str → Option Value} {wd r : Str} {tl nu : Int} {tw tt tn tr : Tok} {D : Addr} {us : List Value} {n : Nat}
    (C : LawCtx w mean mg mb h₀ sl vs ns) (hw : wd.length ≤ 5) (hwo : PyData.strOk wd = true) (ht0 : 0 ≤ tl) (ht1 : tl ≤ 8) (hn0 : 0 ≤ nu) (hn1 : nu < 1000000000000000000000) (hr4 : 4 ≤ r.length) (hr6 : r.length ≤ 600)
    (hlaw : ∀ i, DueLaw wd nu tl r i) (hus : StrsAre us ((List.range r.length).map (cutS r)))
    (F : Fr h₀ L s.heap (kstB ρ [(Str.ofString "script", Value.ref sl), (Str.ofString "word", .str wd tw), (Str.ofString "tail", .int tl tt), (Str.ofString "number", .int nu tn), (Str.ofString "reply", .str r tr), (Str.ofString "shown", .ref D)]))
    (N : News h₀ L s.heap [(D, listOf us.toArray n)])
    (hnext : ∀ (ρ : Str → Option Value) h' tk', Fr h₀ L h' (kstB ρ [(Str.ofString "script", Value.ref sl), (Str.ofString "word", .str wd tw), (Str.ofString "tail", .int tl tt), (Str.ofString "number", .int nu tn), (Str.ofString "reply", .str r tr), (Str.ofString "shown", .ref D)]) → Q .next { s with heap := h', toks := tk' }) :
    wpCl (lawM w) (lawA L fa cd) (exec (lawSt 10) (lawEnv L fa cd)) Q (fun _ _ => False) s := by
  obtain ⟨px, pos, e10⟩ := lawSt10_is
  rw [e10]
  refine wpCl_For (it10 C hr6 F N fun ρ₁ G us' ks n' h₁ tk₁ hI₁ F₁ N₁ => ?_) (by intro _; rfl)
  have hls : h₁.IsList G us'.toArray := News.isList N₁ (.tail _ (.head _))
  refine wpAny_pyIter_list hls ?_
  have hIL : h₁.objs.size ≠ L := fun q => absurd F₁.ns.lt (q ▸ Nat.lt_irrefl _)
  refine codeCl_forInts (n := n') (led := [(D, listOf us.toArray n), (G, listOf us'.toArray n')]) (ps := [(Str.ofString "script", Value.ref sl), (Str.ofString "word", .str wd tw), (Str.ofString "tail", .int tl tt), (Str.ofString "number", .int nu tn), (Str.ofString "reply", .str r tr), (Str.ofString "shown", .ref D)])
    rfl rfl rfl hI₁ (F₁.push _) (fun p hp => ⟨Heap.get?_push_of_some _ (N₁ p hp).1, (N₁ p hp).2⟩) (.tail _ (.head _)) ⟨_, Heap.get?_push_size _ rfl, rfl, rfl⟩ hIL (next_is_new F₁) (fun p hp q => absurd (Heap.lt_size (N₁ p hp).1) (q ▸ Nat.lt_irrefl _)) ?_ ?_
  · intro i ti ρ₂ h₂ tk₂ oI F₂ N₂
    have N₂' : News h₀ L h₂ ((D, listOf us.toArray n) :: [(G, listOf us'.toArray n'), (h₁.objs.size, oI)]) := N₂
    have H := hlaw i
    rw [turnBody_is]
    refine wpCl_execs_then (tb0 C hr4 hr6 hus F₂ N₂' fun ρ₃ td h₃ tk₃ F₃ N₃ => ?_)
    refine wpCl_execs_then (tb1 C hr6 F₃ N₃ fun ρ₄ h₄ tk₄ F₄ N₄ => ?_)
    refine wpCl_execs_then (tb2 C hw ht0 ht1 F₄ N₄ fun ρ₅ tlf h₅ tk₅ F₅ N₅ => ?_)
    refine wpCl_execs_then (tb3 C hw hn0 hn1 (by omega) H.h1 H.h2 H.h3 H.h4 F₅ N₅ fun ρ₆ A v1 v2 nw' h₆ tk₆ hT₆ hs₆ F₆ N₆ => ?_)
    refine wpCl_execs_cons (tb4 C H.len H.ok hwo H.good hT₆ F₆ N₆ fun ρ₇ h₇ tk₇ F₇ N₇ => ?_)
    refine wpCl_of (wpAny_execs_nil ⟨rfl, ρ₇, h₇, tk₇, rfl, F₇, ?_⟩)
    exact news_sub N₇ (fun q hq => hs₆ q hq)
  · intro ρ₂ h₂ tk₂ F₂ N₂
    exact hnext ρ₂ h₂ tk₂ F₂
end Mine
end
section
open PySem PySem.W PyProof.Rows
set_option linter.unusedVariables false
namespace Mine
open Mine.Head PySem.Calls
/-- the plain law, as the walk wants it -/
structure LawPlain (ns : List Int) : Prop where
  hw : (wordS ns).length ≤ 5
  hwo : PyData.strOk (wordS ns) = true
  hn0 : 0 ≤ readOn (figs ns)
  hn1 : readOn (figs ns) < 1000000000000000000000
  hr4 : 4 ≤ (replyS (wordS ns) (readOn (figs ns)) (ns.sum.fmod 9)).length
  hr6 : (replyS (wordS ns) (readOn (figs ns)) (ns.sum.fmod 9)).length ≤ 600
  due : ∀ i, DueLaw (wordS ns) (readOn (figs ns)) (ns.sum.fmod 9) (replyS (wordS ns) (readOn (figs ns)) (ns.sum.fmod 9)) i
set_option maxRecDepth 100000 in
set_option maxHeartbeats 2000000 in
theorem st11 {w : World} {mean : ExcName → Option Value} {mg mb : Str → Option Value} {h₀ : Heap} {sl : Addr} {vs : List Value} {ns : List Int} {fa : Addr} {cd : Value} {L : Addr} {s : Shared} {Q : Flow → Shared → Prop} {E : Value → Shared → Prop}
    (C : LawCtx w mean mg mb h₀ sl vs ns) (hnext : ∀ tk, Q (.ret (.bool true)) { s with toks := tk }) :
    wpAny (lawM w) (lawA L fa cd) (exec (lawSt 11) (lawEnv L fa cd)) Q E s := by
  show wpAny (model PySem.Challenge.rw_pg0021_01.row.prog w) (callerA.deeper (envOf _ ⟨_, _, _, _, _⟩ _ _ _)) (exec (Stmt.Return _ _) (envOf _ ⟨_, _, _, _, _⟩ _ _ _)) _ _ _
  refine wpAny_Return_some ?_
  refine wpAny_pure ?_
  exact hnext s.toks
set_option maxRecDepth 100000 in
set_option maxHeartbeats 4000000 in
theorem law_cl {w : World} {mean : ExcName → Option Value} {mg mb : Str → Option Value} {h₀ : Heap} {sl : Addr} {vs : List Value} {ns : List Int} {fa : Addr} {cd : Value} {L : Addr} {s : Shared} {ρ : Str → Option Value}
    (C : LawCtx w mean mg mb h₀ sl vs ns) (P : LawPlain ns) (F : Fr h₀ L s.heap (kstB ρ [(Str.ofString "script", Value.ref sl)])) :
    wpCl (lawM w) (lawA L fa cd) (execs [lawSt 0, lawSt 1, lawSt 2, lawSt 3, lawSt 4, lawSt 5, lawSt 6, lawSt 7, lawSt 8, lawSt 9, lawSt 10, lawSt 11] (lawEnv L fa cd)) (fun f s' => f = .ret (.bool true) ∧ ∃ m' h' tk', s' = { s with heap := h', toks := tk' } ∧ Fr h₀ L h' m') (fun _ _ => False) s := by
  have htl0 := Int.fmod_nonneg_of_pos ns.sum (b := 9) (by decide)
  have htl1 := Int.fmod_lt_of_pos ns.sum (b := 9) (by decide)
  have h0 := @st0 w mean mg mb h₀ sl vs ns fa cd L
  have h1 := @st1 w mean mg mb h₀ sl vs ns fa cd L
  have h2 := @st2 w mean mg mb h₀ sl vs ns fa cd L
  have h3 := @st3 w mean mg mb h₀ sl vs ns fa cd L
  have h4 := @st4 w mean mg mb h₀ sl vs ns fa cd L
  have h5 := @st5 w mean mg mb h₀ sl vs ns fa cd L
  have h6 := @st6 w mean mg mb h₀ sl vs ns fa cd L
  have h7 := @st7 w mean mg mb h₀ sl vs ns fa cd L
  have h8 := @st8 w mean mg mb h₀ sl vs ns fa cd L
  have h9 := @st9 w mean mg mb h₀ sl vs ns fa cd L
  have h10 := @st10 w mean mg mb h₀ sl vs ns fa cd L
  have h11 := @st11 w mean mg mb h₀ sl vs ns fa cd L
  generalize lawSt 0 = a0 at h0 ⊢
  generalize lawSt 1 = a1 at h1 ⊢
  generalize lawSt 2 = a2 at h2 ⊢
  generalize lawSt 3 = a3 at h3 ⊢
  generalize lawSt 4 = a4 at h4 ⊢
  generalize lawSt 5 = a5 at h5 ⊢
  generalize lawSt 6 = a6 at h6 ⊢
  generalize lawSt 7 = a7 at h7 ⊢
  generalize lawSt 8 = a8 at h8 ⊢
  generalize lawSt 9 = a9 at h9 ⊢
  generalize lawSt 10 = a10 at h10 ⊢
  generalize lawSt 11 = a11 at h11 ⊢
  refine wpCl_execs_then (h0 C F fun ρ t h tk _ F => ?_)
  refine wpCl_execs_then (h1 C F fun ρ D us h tk hus F N => ?_)
  refine wpCl_execs_then (h2 C F N fun ρ t h tk F N => ?_)
  refine wpCl_execs_then (h3 C F N fun ρ t h tk F N => ?_)
  refine wpCl_execs_then (h4 C hus F N fun ρ t h tk F => ?_)
  refine wpCl_execs_then (h5 C P.hw htl0 (by omega) P.hn0 P.hn1 F fun ρ t h tk F => ?_)
  refine wpCl_execs_then (h6 C F fun ρ D ta tb tc td h tk F N => ?_)
  refine wpCl_execs_then (h7 C F N fun ρ t h tk F N => ?_)
  refine wpCl_execs_then (h8 C F N fun ρ t h tk F N => ?_)
  refine wpCl_execs_then (h9 C P.hr4 P.hr6 F N fun ρ us n h tk hus F N => ?_)
  refine wpCl_execs_cons (h10 C P.hw P.hwo htl0 (by omega) P.hn0 P.hn1 P.hr4 P.hr6 P.due hus F N fun ρ h tk F => ?_)
  refine wpCl_execs_then (h11 C fun tk => ?_)
  exact ⟨rfl, _, h, tk, rfl, F⟩
set_option maxRecDepth 100000 in
set_option maxHeartbeats 8000000 in
theorem final (plain : ∀ ns : List Int, ns.length ≤ 63 → LawPlain ns) : PySem.Challenge.rw_pg0021_01.Holds := by
  refine hd ?_
  k_fill
  intro w s₀ s₁ mg mb G Y fa o pm cd doc dV kV ho hdd hcd hD hmg hg args vals as hpre hlay hrd hwl hlo
  have KX := kIn_of Y
  refine Ground.open G ?_
  intro T B D TE TW
  clear B D TE TW
  wrow_args hpre hlay hrd hwl hlo
  rename List Int => ns
  rename Heap.IsList _ _ _ => hL9
  rename IntsAre _ ns => hI9
  rename (PyData.list (List.map PyData.int ns)).layable0 = true => hl9
  rename ¬ (63 : Int) < _ => h63
  have C : LawCtx w (ExcName.means s₀.heap) mg mb s₁.heap _ _ ns := ⟨below_caller _, KX, T, hL9, hI9, hl9, by omega⟩
  refine wpTop_call ?_
  have he := Dflts.none hD rfl
  subst he
  refine codeCl_call_def (binds := [(Str.ofString "script", _)]) (by decide) ho hdd (Top.nolimit T) hcd rfl (BindsTo.of_eq rfl) (show ∀ x ∈ lawScope.names, x.2 ≠ NameKind.cell from by decide +kernel) (locs rfl) (fun h₁ hns hkeep => ?_) rfl rfl rfl
  have F₀ : Fr s₁.heap s₁.heap.objs.size h₁ _ := ⟨hns, hkeep, Nat.le_refl _⟩
  have F₁ := frB (ps := [(Str.ofString "script", _)]) F₀ ⟨rfl, trivial⟩
  refine wpCl_mono (law_cl C (plain ns (by omega)) (s := { s₁ with heap := h₁, toks := s₁.toks + 1 }) F₁) ?_ (fun _ _ q => q.elim)
  rintro f s' ⟨rfl, m', h', tk', rfl, F'⟩
  refine GoodW.toG ?_
  dsimp only
  k_steps
end Mine
end
section
open PySem PySem.W PyProof.Rows
set_option linter.unusedVariables false
namespace Mine
open PySem.NumText
theorem snocInd {P : List Nat → Prop} (h0 : P []) (h1 : ∀ b c, P b → P (b ++ [c])) (l : List Nat) : P l := by
  have h : ∀ l : List Nat, P l.reverse := fun l => by
    induction l with
    | nil => exact h0
    | cons c t ih => rw [List.reverse_cons]; exact h1 _ _ ih
  have h2 := h l.reverse
  rwa [List.reverse_reverse] at h2
/-- digits that are read -/
theorem digitsVal_app (a b : List Nat) : digitsVal (a ++ b) = digitsVal a * 10 ^ b.length + digitsVal b := by
  induction b using snocInd with
  | h0 => simp [digitsVal]
  | h1 b c ih =>
    rw [← List.append_assoc, digitsVal_snoc, ih, digitsVal_snoc, List.length_append, List.length_singleton, Nat.pow_succ, Nat.add_mul, Nat.mul_assoc]
    omega
theorem digitsVal_lt : ∀ {l : List Nat}, AllDigits l → digitsVal l < 10 ^ l.length := by
  intro l
  induction l using snocInd with
  | h0 => intro _; decide
  | h1 b c ih =>
    intro h
    have h1 := ih (fun d hd => h d (List.mem_append_left _ hd))
    have h2 := h c (List.mem_append_right _ (.head _))
    rw [digitsVal_snoc, List.length_append, List.length_singleton, Nat.pow_succ]
    omega
theorem digitsVal_drop {l : List Nat} (h : AllDigits l) {k : Nat} (hk : k ≤ l.length) : digitsVal (l.drop (l.length - k)) = digitsVal l % 10 ^ k := by
  have e : digitsVal l = digitsVal (l.take (l.length - k)) * 10 ^ (l.drop (l.length - k)).length + digitsVal (l.drop (l.length - k)) := by
    rw [← digitsVal_app, List.take_append_drop]
  have hl : (l.drop (l.length - k)).length = k := by rw [List.length_drop]; omega
  rw [hl] at e
  have hlt : digitsVal (l.drop (l.length - k)) < 10 ^ k := by
    have := digitsVal_lt (l := l.drop (l.length - k)) (fun d hd => h d (List.mem_of_mem_drop hd))
    rw [hl] at this
    exact this
  rw [e, Nat.mul_comm, Nat.mul_add_mod, Nat.mod_eq_of_lt hlt]
/-- digits that are written -/
theorem digs_foldl : ∀ (t : List Nat) (a : Nat), 0 < a → (∀ d ∈ t, d < 10) → Nat.toDigits 10 (t.foldl (fun a d => 10 * a + d) a) = Nat.toDigits 10 a ++ t.map Nat.digitChar
  | [], a, _, _ => by simp
  | d :: t, a, h0, h => by
    have hd := h d (.head _)
    rw [List.foldl_cons, digs_foldl t (10 * a + d) (by omega) (fun e he => h e (.tail _ he)), ← Nat.toDigits_append_toDigits (b := 10) (n := a) (d := d) (by decide) h0 hd, Nat.toDigits_of_lt_base hd]
    simp
theorem readOn_nat : ∀ (l : List Int) (a : Nat), (∀ d ∈ l, 0 ≤ d ∧ d ≤ 9) → l.foldl (fun a d => 10 * a + d) (a : Int) = (((l.map Int.toNat).foldl (fun a d => 10 * a + d) a : Nat) : Int)
  | [], a, _ => rfl
  | d :: t, a, h => by
    have hd := h d (.head _)
    rw [List.foldl_cons, List.map_cons, List.foldl_cons, ← readOn_nat t _ (fun e he => h e (.tail _ he))]
    congr 1
    omega
theorem digitChar_range : ∀ d : Nat, d < 10 → 48 ≤ (Nat.digitChar d).toNat ∧ (Nat.digitChar d).toNat ≤ 57 := by decide
/-- what is known of the number's text -/
structure NumOk (nu : Int) (D0 : List Nat) : Prop where
  txt : cl (Str.ofString (toString nu)) = 57 :: D0
  dig : AllDigits (57 :: D0)
  val : nu = ((digitsVal (57 :: D0) : Nat) : Int)
  lo : 12 ≤ D0.length
  hi : D0.length ≤ 20
theorem figs_num (ns : List Int) : ∃ D0, NumOk (readOn (figs ns)) D0 := by
  obtain ⟨rest, hrest⟩ : ∃ rest, figs ns = 9 :: rest := ⟨_, rfl⟩
  have hb := figs_bounds (ns := ns)
  have hlen := figs_len (ns := ns)
  rw [hrest] at hb hlen
  have hd : ∀ d ∈ rest.map Int.toNat, d < 10 := by
    intro d hd
    obtain ⟨e, he, rfl⟩ := List.mem_map.mp hd
    have := hb e (.tail _ he)
    omega
  have hv : readOn (figs ns) = (((rest.map Int.toNat).foldl (fun a d => 10 * a + d) 9 : Nat) : Int) := by
    rw [hrest]
    show (9 :: rest).foldl (fun a d => 10 * a + d) ((0 : Nat) : Int) = _
    rw [readOn_nat _ 0 hb]
    rfl
  have htxt : cl (Str.ofString (toString (readOn (figs ns)))) = 57 :: (rest.map Int.toNat).map (fun d => (Nat.digitChar d).toNat) := by
    rw [hv]
    show (Str.ofString (toString _)).cps.toList = _
    rw [KIN.signs_num, digs_foldl _ 9 (by decide) hd, List.map_append, List.map_map]
    rfl
  refine ⟨_, htxt, ?_, ?_, ?_, ?_⟩
  · intro c hc
    rcases List.mem_cons.mp hc with rfl | hc
    · omega
    · obtain ⟨d, hd', rfl⟩ := List.mem_map.mp hc
      exact digitChar_range d (hd d hd')
  · rw [← htxt, hv]
    show _ = ((digitsVal (Str.ofString (toString _)).cps.toList : Nat) : Int)
    rw [KIN.signs_num, KIN.val_back]
  · rw [List.length_map, List.length_map]
    rw [List.length_cons] at hlen
    omega
  · rw [List.length_map, List.length_map]
    rw [List.length_cons] at hlen
    omega
end Mine
end
section
open PySem PySem.W PyProof.Rows
set_option linter.unusedVariables false
namespace Mine
open PySem.NumText
/-- the reply, sign by sign -/
structure Rep (r : Str) (W D0 : List Nat) (t : Nat) : Prop where
  is : cl r = (([50, 50, 57, 32] ++ W) ++ [40]) ++ ((57 :: D0) ++ 46 :: 41 :: List.replicate t 98)
  wl : W.length ≤ 5
  w40 : 40 ∉ W
  wa : ∀ c ∈ W, c < 128
  dig : AllDigits (57 :: D0)
  lo : 12 ≤ D0.length
  hi : D0.length ≤ 20
  ht : t ≤ 8
section
variable {r : Str} {W D0 : List Nat} {t : Nat}
abbrev hdW (W : List Nat) : List Nat := [50, 50, 57, 32] ++ W
abbrev tlD (D0 : List Nat) (t : Nat) : List Nat := (57 :: D0) ++ 46 :: 41 :: List.replicate t 98
theorem Rep.len (R : Rep r W D0 t) : r.length = W.length + D0.length + t + 8 := by
  rw [str_len, show r.cps.toList = _ from R.is]
  simp only [List.length_append, List.length_cons, List.length_nil, List.length_replicate]
  omega
theorem hd40 (R : Rep r W D0 t) : 40 ∉ hdW W := by
  intro h
  rcases List.mem_append.mp h with h | h
  · exact absurd h (by decide)
  · exact R.w40 h
theorem tl_mem (R : Rep r W D0 t) {c : Nat} (h : c ∈ tlD D0 t) : (48 ≤ c ∧ c ≤ 57) ∨ c = 46 ∨ c = 41 ∨ c = 98 := by
  rcases List.mem_append.mp h with h | h
  · exact .inl (R.dig c h)
  · rcases List.mem_cons.mp h with h | h
    · exact .inr (.inl h)
    · rcases List.mem_cons.mp h with h | h
      · exact .inr (.inr (.inl h))
      · exact .inr (.inr (.inr (List.mem_replicate.mp h).2))
theorem tl40 (R : Rep r W D0 t) : 40 ∉ tlD D0 t := fun h => by have := tl_mem R h; omega
theorem dig41 (R : Rep r W D0 t) : 41 ∉ 57 :: D0 := fun h => by have := R.dig 41 h; omega
theorem rep41 {t : Nat} : 41 ∉ List.replicate t 98 := fun h => by have := (List.mem_replicate.mp h).2; omega
theorem ascii (R : Rep r W D0 t) : ∀ c ∈ cl r, c < 128 := by
  intro c hc
  rw [R.is] at hc
  rcases List.mem_append.mp hc with h | h
  · rcases List.mem_append.mp h with h | h
    · rcases List.mem_append.mp h with h | h
      · simp only [List.mem_cons, List.not_mem_nil, or_false] at h; omega
      · exact R.wa c h
    · have := List.mem_singleton.mp h; omega
  · have := tl_mem R h; omega
theorem cut_list (R : Rep r W D0 t) (i : Nat) : cl (cutS r i) = (cl r).take ((i - 3) / 2) ++ ([46, 46, 46] ++ (cl r).drop (r.length - (i - 3 - (i - 3) / 2))) := by
  unfold cutS
  show (preS r ((i - 3) / 2) ++ Str.ofString "..." ++ sufS r (i - 3 - (i - 3) / 2)).cps.toList = _
  rw [str_append, str_append, preS_list, sufS_list, show (Str.ofString "...").cps.toList = [46, 46, 46] by decide +kernel, List.append_assoc]
theorem drop_past {a b : List Nat} {i : Nat} (h : a.length ≤ i) : (a ++ b).drop i = b.drop (i - a.length) := by
  rw [List.drop_append, List.drop_eq_nil_of_le h, List.nil_append]
/-- the last s signs -/
theorem suf_cases (R : Rep r W D0 t) {s : Nat} (hs : s ≤ D0.length + 3 + t) :
    ∃ X, (cl r).drop (r.length - s) = X ∧ (∀ c ∈ X, c ∈ tlD D0 t) ∧ ((s ≤ t ∧ 41 ∉ X) ∨ (s = t + 1 ∧ X = 41 :: List.replicate t 98) ∨ ∃ k, s = t + 2 + k ∧ k ≤ D0.length + 1 ∧ X = (57 :: D0).drop (D0.length + 1 - k) ++ 46 :: 41 :: List.replicate t 98) := by
  have hl := R.len
  have e : (cl r).drop (r.length - s) = (tlD D0 t).drop (D0.length + 3 + t - s) := by
    have hL : (([50, 50, 57, 32] ++ W) ++ [40]).length = W.length + 5 := by simp
    rw [R.is, drop_past (by rw [hL]; omega), hL]
    congr 1
    omega
  refine ⟨_, e, fun c hc => List.mem_of_mem_drop hc, ?_⟩
  by_cases h1 : s ≤ t
  · refine .inl ⟨h1, ?_⟩
    have e1 : tlD D0 t = ((57 :: D0) ++ [46, 41]) ++ List.replicate t 98 := by simp
    rw [e1, drop_past (by simp; omega)]
    exact fun q => rep41 (List.mem_of_mem_drop q)
  · by_cases h2 : s = t + 1
    · refine .inr (.inl ⟨h2, ?_⟩)
      have e1 : tlD D0 t = ((57 :: D0) ++ [46]) ++ (41 :: List.replicate t 98) := by simp
      rw [e1, List.drop_left' (by simp; omega)]
    · refine .inr (.inr ⟨s - t - 2, by omega, by omega, ?_⟩)
      have e3 : D0.length + 3 + t - s = D0.length + 1 - (s - t - 2) := by omega
      rw [e3]
      exact List.drop_append_of_le_length (by simp)
theorem head3 (R : Rep r W D0 t) : ∃ Y, cl r = 50 :: 50 :: 57 :: 32 :: Y := ⟨W ++ 40 :: ((57 :: D0) ++ 46 :: 41 :: List.replicate t 98), by rw [R.is]; simp⟩
theorem take3 (R : Rep r W D0 t) : (cl r).take 3 = [50, 50, 57] := by
  obtain ⟨Y, e⟩ := head3 R
  rw [e]; rfl
theorem take3_cut (R : Rep r W D0 t) {p : Nat} (hp : 3 ≤ p) (Z : List Nat) : ((cl r).take p ++ Z).take 3 = [50, 50, 57] := by
  obtain ⟨Y, e⟩ := head3 R
  obtain ⟨q, rfl⟩ : ∃ q, p = q + 3 := ⟨p - 3, by omega⟩
  rw [e]
  simp
theorem cut_len3 (R : Rep r W D0 t) (j : Nat) : 3 ≤ (cutS r j).length := by
  rw [str_len, show (cutS r j).cps.toList = _ from cut_list R j]
  simp only [List.length_append, List.length_cons, List.length_nil]
  omega
theorem tells_full (R : Rep r W D0 t) : Tells r .proto := by
  refine tells_differ (A := hdW W) (C := D0) (c := 57) (d := 46) (E := List.replicate t 98) (by have := R.len; omega) (take3 R) ?_ (hd40 R) ?_ (by decide)
  · rw [R.is]; simp
  · intro q
    rcases List.mem_cons.mp q with q | q
    · omega
    · rcases List.mem_append.mp q with q | q
      · exact dig41 R (.tail _ q)
      · have := List.mem_singleton.mp q; omega
theorem tells_low (R : Rep r W D0 t) {j : Nat} (hj : j ≤ 8) : Tells (cutS r j) .reply := by
  refine tells_reply (cut_len3 R j) ?_
  rw [cut_list R j]
  obtain ⟨Y, e⟩ := head3 R
  rw [e]
  have hp : (j - 3) / 2 = 0 ∨ (j - 3) / 2 = 1 ∨ (j - 3) / 2 = 2 := by omega
  rcases hp with h | h | h <;> rw [h] <;> simp
theorem tells_short (R : Rep r W D0 t) {j : Nat} (h9 : 9 ≤ j) (hj : j ≤ 12 + 2 * W.length) : Tells (cutS r j) .proto := by
  have hlo := R.lo
  have hwl := R.wl
  have e := cut_list R j
  obtain ⟨X, eX, hX, _⟩ := suf_cases R (s := j - 3 - (j - 3) / 2) (by omega)
  rw [eX] at e
  refine tells_noopen (cut_len3 R j) (by rw [e]; exact take3_cut R (by omega) _) ?_
  rw [e]
  intro q
  rcases List.mem_append.mp q with q | q
  · have hP : (hdW W).length = 4 + W.length := by simp; omega
    have q2 : 40 ∈ (hdW W).take ((j - 3) / 2) := by
      rw [R.is, List.append_assoc, List.take_append_of_le_length (by rw [hP]; omega)] at q
      exact q
    exact hd40 R (List.mem_of_mem_take q2)
  · rcases List.mem_append.mp q with q | q
    · exact absurd q (by decide)
    · exact tl40 R (hX _ q)
theorem tells_open (R : Rep r W D0 t) {j : Nat} (hj : j = 13 + 2 * W.length ∨ j = 14 + 2 * W.length) :
    (j - 8 - W.length ≤ t + 1 → Tells (cutS r j) .proto) ∧ (j - 8 - W.length = t + 2 → Tells (cutS r j) .value) ∧
    (∀ k, 0 < k → j - 8 - W.length = t + 2 + k → k ≤ D0.length + 1 ∧ Tells (cutS r j) (.port ((digitsVal ((57 :: D0).drop (D0.length + 1 - k)) : Nat) : Int))) := by
  have hlo := R.lo
  have hwl := R.wl
  have hhi := R.hi
  have e := cut_list R j
  have hs : j - 3 - (j - 3) / 2 = j - 8 - W.length := by omega
  have hp : (j - 3) / 2 = W.length + 5 := by omega
  have ht : (cl r).take ((j - 3) / 2) = hdW W ++ [40] := by
    rw [hp, R.is]
    exact List.take_left' (by simp)
  have h3 := cut_len3 R j
  have hh : (cl (cutS r j)).take 3 = [50, 50, 57] := by rw [e]; exact take3_cut R (by omega) _
  obtain ⟨X, eX, hX, hc⟩ := suf_cases R (s := j - 3 - (j - 3) / 2) (by omega)
  rw [eX, ht] at e
  rw [hs] at hc
  have e' : cl (cutS r j) = hdW W ++ 40 :: ([46, 46, 46] ++ X) := by rw [e]; simp
  rcases hc with ⟨h1, h41⟩ | ⟨h1, rfl⟩ | ⟨k, h1, hk, rfl⟩
  · refine ⟨fun _ => ?_, fun h => by omega, fun k hk h => by omega⟩
    refine tells_noclose h3 hh e' (hd40 R) ?_
    intro q
    rcases List.mem_append.mp q with q | q
    · exact absurd q (by decide)
    · exact h41 q
  · refine ⟨fun _ => ?_, fun h => by omega, fun k hk h => by omega⟩
    exact tells_bare h3 hh e' (hd40 R)
  · have hdz : AllDigits ((57 :: D0).drop (D0.length + 1 - k)) := fun c hc => R.dig c (List.mem_of_mem_drop hc)
    have hlz : ((57 :: D0).drop (D0.length + 1 - k)).length = k := by rw [List.length_drop, List.length_cons]; omega
    have key := tells_parts (x := cutS r j) (A := hdW W) (Z := (57 :: D0).drop (D0.length + 1 - k)) (E := List.replicate t 98) h3 hh (by rw [e']; simp) (hd40 R) hdz (by rw [hlz]; omega)
    refine ⟨fun h => by omega, fun h => ?_, fun k' hk' h => ?_⟩
    · rw [if_pos (List.eq_nil_of_length_eq_zero (by rw [hlz]; omega))] at key
      exact key
    · obtain rfl : k = k' := by omega
      rw [if_neg (fun q => by rw [q] at hlz; simp at hlz; omega)] at key
      exact ⟨hk, key⟩
theorem tells_long (R : Rep r W D0 t) {j : Nat} (hj : 15 + 2 * W.length ≤ j) (hjr : j < r.length) : Tells (cutS r j) .proto := by
  have hlo := R.lo
  have hwl := R.wl
  have hhi := R.hi
  have htt := R.ht
  have hlen := R.len
  have e := cut_list R j
  have h3 := cut_len3 R j
  have hh : (cl (cutS r j)).take 3 = [50, 50, 57] := by rw [e]; exact take3_cut R (by omega) _
  obtain ⟨m, hm⟩ : ∃ m, (j - 3) / 2 = (W.length + 6) + m := ⟨(j - 3) / 2 - (W.length + 6), by omega⟩
  have hml : m ≤ D0.length + 1 := by omega
  have ht : (cl r).take ((j - 3) / 2) = hdW W ++ 40 :: 57 :: (D0 ++ [46]).take m := by
    have e0 : cl r = (hdW W ++ 40 :: [57]) ++ ((D0 ++ [46]) ++ 41 :: List.replicate t 98) := by rw [R.is]; simp
    have hL : (hdW W ++ 40 :: [57]).length = W.length + 6 := by simp
    rw [hm, e0, List.take_append, hL, List.take_of_length_le (by rw [hL]; omega), Nat.add_sub_cancel_left, List.take_append_of_le_length (by simp; omega)]
    simp
  have hT : 41 ∉ (D0 ++ [46]).take m := by
    intro q
    rcases List.mem_append.mp (List.mem_of_mem_take q) with q | q
    · exact dig41 R (.tail _ q)
    · have := List.mem_singleton.mp q; omega
  obtain ⟨X, eX, hX, hc⟩ := suf_cases R (s := j - 3 - (j - 3) / 2) (by omega)
  rw [eX, ht] at e
  rcases hc with ⟨h1, h41⟩ | ⟨h1, rfl⟩ | ⟨k, h1, hk, rfl⟩
  · refine tells_noclose (A := hdW W) (B := 57 :: ((D0 ++ [46]).take m ++ ([46, 46, 46] ++ X))) h3 hh (by rw [e]; simp) (hd40 R) ?_
    intro q
    rcases List.mem_cons.mp q with q | q
    · omega
    · rcases List.mem_append.mp q with q | q
      · exact hT q
      · rcases List.mem_append.mp q with q | q
        · exact absurd q (by decide)
        · exact h41 q
  · refine tells_differ (A := hdW W) (C := (D0 ++ [46]).take m ++ [46, 46]) (c := 57) (d := 46) (E := List.replicate t 98) h3 hh (by rw [e]; simp) (hd40 R) ?_ (by decide)
    intro q
    rcases List.mem_cons.mp q with q | q
    · omega
    · rcases List.mem_append.mp q with q | q
      · rcases List.mem_append.mp q with q | q
        · exact hT q
        · exact absurd q (by decide)
      · exact absurd q (by decide)
  · refine tells_differ (A := hdW W) (C := (D0 ++ [46]).take m ++ [46, 46, 46] ++ (57 :: D0).drop (D0.length + 1 - k)) (c := 57) (d := 46) (E := List.replicate t 98) h3 hh (by rw [e]; simp) (hd40 R) ?_ (by decide)
    intro q
    rcases List.mem_cons.mp q with q | q
    · omega
    · rcases List.mem_append.mp q with q | q
      · rcases List.mem_append.mp q with q | q
        · rcases List.mem_append.mp q with q | q
          · exact hT q
          · exact absurd q (by decide)
        · exact dig41 R (List.mem_of_mem_drop q)
      · exact absurd q (by decide)
end
end Mine
end
section
open PySem PySem.W PyProof.Rows
set_option linter.unusedVariables false
namespace Mine
open PySem.NumText
theorem strOk_of {x : Str} (h : ∀ c ∈ cl x, c < 128) : PyData.strOk x = true := by
  unfold PyData.strOk
  rw [← Array.all_toList, List.all_eq_true]
  intro c hc
  have := h c hc
  exact decide_eq_true (by omega)
theorem cut_ascii {r : Str} (h : ∀ c ∈ cl r, c < 128) (j : Nat) : ∀ c ∈ cl (cutS r j), c < 128 := by
  intro c hc
  have e : cl (cutS r j) = (cl r).take ((j - 3) / 2) ++ ([46, 46, 46] ++ (cl r).drop (r.length - (j - 3 - (j - 3) / 2))) := by
    unfold cutS
    show (preS r ((j - 3) / 2) ++ Str.ofString "..." ++ sufS r (j - 3 - (j - 3) / 2)).cps.toList = _
    rw [str_append, str_append, preS_list, sufS_list, show (Str.ofString "...").cps.toList = [46, 46, 46] by decide +kernel, List.append_assoc]
  rw [e] at hc
  rcases List.mem_append.mp hc with q | q
  · exact h c (List.mem_of_mem_take q)
  · rcases List.mem_append.mp q with q | q
    · simp only [List.mem_cons, List.not_mem_nil, or_false] at q; omega
    · exact h c (List.mem_of_mem_drop q)
theorem cut_le (r : Str) (j : Nat) : (cutS r j).length ≤ r.length + 3 + r.length := by
  unfold cutS
  rw [str_len, str_append, str_append, List.length_append, List.length_append, preS_list, sufS_list, List.length_take, List.length_drop, ← str_len, show (Str.ofString "...").cps.toList.length = 3 by decide +kernel]
  omega
theorem due_law {r wd : Str} {D0 : List Nat} {t : Nat} {nu tl : Int} (R : Rep r (cl wd) D0 t) (htl : tl = (t : Int)) (hv : nu = ((digitsVal (57 :: D0) : Nat) : Int)) (i : Int) : DueLaw wd nu tl r i := by
  subst htl
  have hw : wd.length = (cl wd).length := str_len wd
  have hlen := R.len
  have hlo := R.lo
  have hwl := R.wl
  have hhi := R.hi
  have htt := R.ht
  by_cases hfull : (r.length : Int) ≤ i
  · have e : dueS r i = r := if_pos hfull
    have T := tells_full R
    refine ⟨?_, ?_, ?_, ?_, ?_, ?_, ?_⟩ <;> rw [e]
    · omega
    · exact strOk_of (ascii R)
    · exact T.1
    · intro h; omega
    · intro _ _; exact T.2
    · intro h _; omega
    · intro h _; omega
  · have e : dueS r i = cutS r i.toNat := if_neg hfull
    have hlen2 : (cutS r i.toNat).length ≤ 600 := by have := cut_le r i.toNat; omega
    have hok : PyData.strOk (cutS r i.toNat) = true := strOk_of (cut_ascii (ascii R) _)
    by_cases h8 : i ≤ 8
    · have T := tells_low R (j := i.toNat) (by omega)
      refine ⟨?_, ?_, ?_, ?_, ?_, ?_, ?_⟩ <;> rw [e]
      · exact hlen2
      · exact hok
      · exact T.1
      · intro _; exact T.2
      · intro h _; exact absurd h8 h
      · intro h _; omega
      · intro h _; omega
    · by_cases h12 : i ≤ 12 + 2 * (wd.length : Int)
      · have T := tells_short R (j := i.toNat) (by omega) (by omega)
        refine ⟨?_, ?_, ?_, ?_, ?_, ?_, ?_⟩ <;> rw [e]
        · exact hlen2
        · exact hok
        · exact T.1
        · intro h; omega
        · intro _ _; exact T.2
        · intro h _; omega
        · intro h _; omega
      · by_cases h15 : 15 + 2 * (wd.length : Int) ≤ i
        · have T := tells_long R (j := i.toNat) (by omega) (by omega)
          refine ⟨?_, ?_, ?_, ?_, ?_, ?_, ?_⟩ <;> rw [e]
          · exact hlen2
          · exact hok
          · exact T.1
          · intro h; omega
          · intro _ _; exact T.2
          · intro h _; omega
          · intro h _; omega
        · obtain ⟨T1, T2, T3⟩ := tells_open R (j := i.toNat) (by omega)
          by_cases hc1 : i.toNat - 8 - (cl wd).length ≤ t + 1
          · have T := T1 hc1
            refine ⟨?_, ?_, ?_, ?_, ?_, ?_, ?_⟩ <;> rw [e]
            · exact hlen2
            · exact hok
            · exact T.1
            · intro h; omega
            · intro _ _; exact T.2
            · intro _ h; omega
            · intro _ h; omega
          · by_cases hc2 : i.toNat - 8 - (cl wd).length = t + 2
            · have T := T2 hc2
              refine ⟨?_, ?_, ?_, ?_, ?_, ?_, ?_⟩ <;> rw [e]
              · exact hlen2
              · exact hok
              · exact T.1
              · intro h; omega
              · intro _ h; omega
              · intro _ _; exact T.2
              · intro _ h; omega
            · obtain ⟨k, hk⟩ : ∃ k, i.toNat - 8 - (cl wd).length = t + 2 + k := ⟨i.toNat - 8 - (cl wd).length - (t + 2), by omega⟩
              obtain ⟨hkl, T⟩ := T3 k (by omega) hk
              refine ⟨?_, ?_, ?_, ?_, ?_, ?_, ?_⟩ <;> rw [e]
              · exact hlen2
              · exact hok
              · exact T.1
              · intro h; omega
              · intro _ h; omega
              · intro _ h; omega
              · intro _ _
                have ek : (i - 10 - (wd.length : Int) - (t : Int)).toNat = k := by omega
                have hm := digitsVal_drop (l := 57 :: D0) R.dig (k := k) (by rw [List.length_cons]; exact hkl)
                rw [List.length_cons] at hm
                rw [T.2, hm, ek, hv, Int.fmod_eq_emod_of_nonneg _ (Int.le_of_lt (Int.pow_pos (by decide)))]
                congr 1
/-- the tail's signs -/
theorem tail_list (tl : Int) (h0 : 0 ≤ tl) (h8 : tl ≤ 8) : cl (Txt.mul (Str.ofString "b") tl) = List.replicate tl.toNat 98 := by
  have : tl = 0 ∨ tl = 1 ∨ tl = 2 ∨ tl = 3 ∨ tl = 4 ∨ tl = 5 ∨ tl = 6 ∨ tl = 7 ∨ tl = 8 := by omega
  rcases this with rfl | rfl | rfl | rfl | rfl | rfl | rfl | rfl | rfl <;> decide +kernel
theorem reply_rep {wd : Str} {nu tl : Int} {D0 : List Nat} (hw5 : (cl wd).length ≤ 5) (hw40 : 40 ∉ cl wd) (hwa : ∀ c ∈ cl wd, c < 128) (N : NumOk nu D0) (h0 : 0 ≤ tl) (h8 : tl ≤ 8) : Rep (replyS wd nu tl) (cl wd) D0 tl.toNat := by
  refine ⟨?_, hw5, hw40, hwa, N.dig, N.lo, N.hi, by omega⟩
  unfold replyS
  show (Str.ofString "229 " ++ wd ++ Str.ofString "(" ++ Str.ofString (toString nu) ++ Str.ofString ".)" ++ Txt.mul (Str.ofString "b") tl).cps.toList = _
  rw [str_append, str_append, str_append, str_append, str_append, show (Str.ofString "229 ").cps.toList = [50, 50, 57, 32] by decide +kernel, show (Str.ofString "(").cps.toList = [40] by decide +kernel, show (Str.ofString ".)").cps.toList = [46, 41] by decide +kernel,
    show (Str.ofString (toString nu)).cps.toList = _ from N.txt, show (Txt.mul (Str.ofString "b") tl).cps.toList = _ from tail_list tl h0 h8]
  simp
/-- the word's signs -/
theorem sgn_ok : ∀ k : Nat, k < 5 → ∀ c ∈ cl (Txt.item (Str.ofString "a.)7|") (k : Int)), c ≠ 40 ∧ c < 128 := by decide +kernel
theorem sgnOf_ok (n : Int) : ∀ c ∈ cl (sgnOf n), c ≠ 40 ∧ c < 128 := by
  have h1 := Int.fmod_nonneg_of_pos n (b := 5) (by decide)
  have h2 := Int.fmod_lt_of_pos n (b := 5) (by decide)
  have e : n.fmod 5 = (((n.fmod 5).toNat : Nat) : Int) := by omega
  unfold sgnOf
  rw [e]
  exact sgn_ok _ (by omega)
theorem join_mem {sep : Str} {c : Nat} (hs : cl sep = []) : ∀ {l : List Str}, c ∈ cl (Str.join sep l) → ∃ x ∈ l, c ∈ cl x
  | [], h => by cases h
  | [x], h => ⟨x, .head _, h⟩
  | x :: y :: l, h => by
    have h' : c ∈ (x ++ sep ++ Str.join sep (y :: l)).cps.toList := h
    rw [str_append, str_append, show sep.cps.toList = [] from hs, List.append_nil] at h'
    rcases List.mem_append.mp h' with q | q
    · exact ⟨x, .head _, q⟩
    · obtain ⟨z, hz, hc⟩ := join_mem hs q
      exact ⟨z, .tail _ hz, hc⟩
theorem join_len {sep : Str} (hs : cl sep = []) : ∀ {l : List Str}, (∀ x ∈ l, x.length = 1) → (cl (Str.join sep l)).length = l.length
  | [], _ => rfl
  | [x], h => by have := h x (.head _); rw [str_len] at this; exact this
  | x :: y :: l, h => by
    show (x ++ sep ++ Str.join sep (y :: l)).cps.toList.length = _
    have h1 := h x (.head _)
    have h2 := join_len hs (l := y :: l) (fun z hz => h z (.tail _ hz))
    rw [str_len] at h1
    rw [str_append, str_append, show sep.cps.toList = [] from hs, List.append_nil, List.length_append, h1, show (Str.join sep (y :: l)).cps.toList.length = _ from h2]
    simp only [List.length_cons]; omega
theorem wordS_is (ns : List Int) : wordS ns = Str.join (Str.ofString "") ((ns.take 5).map sgnOf) := StrLaws.glued_eq_join _ _
theorem word_len (ns : List Int) : (cl (wordS ns)).length ≤ 5 := by
  rw [wordS_is, join_len (by decide +kernel) (fun x hx => by obtain ⟨n, _, rfl⟩ := List.mem_map.mp hx; exact sgn_len n), List.length_map, List.length_take]
  omega
theorem word_ok (ns : List Int) : ∀ c ∈ cl (wordS ns), c ≠ 40 ∧ c < 128 := by
  intro c hc
  rw [wordS_is] at hc
  obtain ⟨x, hx, hcx⟩ := join_mem (by decide +kernel) hc
  obtain ⟨n, _, rfl⟩ := List.mem_map.mp hx
  exact sgnOf_ok n c hcx
theorem plain (ns : List Int) : LawPlain ns := by
  obtain ⟨D0, N⟩ := figs_num ns
  have htl0 := Int.fmod_nonneg_of_pos ns.sum (b := 9) (by decide)
  have htl1 := Int.fmod_lt_of_pos ns.sum (b := 9) (by decide)
  have hw5 := word_len ns
  have R := reply_rep (tl := ns.sum.fmod 9) hw5 (fun h => (word_ok ns 40 h).1 rfl) (fun c hc => (word_ok ns c hc).2) N htl0 (by omega)
  have hlen := R.len
  have hhi := R.hi
  have htt := R.ht
  have hval := N.val
  have hlt := digitsVal_lt N.dig
  have hp : (10 : Nat) ^ (57 :: D0).length ≤ 10 ^ 21 := Nat.pow_le_pow_right (by decide) (by rw [List.length_cons]; omega)
  refine ⟨by rw [str_len]; exact hw5, strOk_of (fun c hc => (word_ok ns c hc).2), by omega, by omega, by omega, by omega, fun i => due_law R (by omega) hval i⟩
end Mine
end
open PySem PySem.W PyProof.Rows
theorem PySem.Challenge.cw_pg0021_01_holds : PySem.Challenge.rw_pg0021_01.Holds :=
  Mine.final (fun ns _ => Mine.plain ns)
